import JvmDerived
import JvmDerived.Pilot.@@N@@Statement
import JvmDerived.Pilot.@@N@@Code
set_option linter.unusedVariables false
set_option linter.unusedSimpArgs false
@@BLOCK:LamKit.lean.txt@@
namespace Jvm.Pilot.@@N@@
open Jvm Jvm.ClassFile Sem Op Lib Jvm.Free Jvm.Stand Jvm.LawKit Jvm.RoadKit Bundle Jvm.Pilot.@@N@@.Jvm.D
/-! the walk's steps, each as a rule on 'the run from here on ends well' -/
/-- the run from A on ends, and K holds of its end -/
def own_Fin (p : Program) (e : Env) (below : List Frame) (K : Outcome → State → Prop) (A : State) : Prop := ∃ t o, Steps p.tables e below A t ∧ t.status = .running ∧ Ended t below o ∧ K o t
/-- where the walk stands: nothing older than n0 written, the heap is h -/
def own_S (p : Program) (l : Launch) (e : Env) (R : Room) (s : State) (m : MethodId) (args : Array Value) (below : List Frame) (meth : Method) (c : Code) (n0 : Nat) (T : State) (h : Heap) (cl sl : Nat) : Prop :=
  ∃ locs, Stand p l e R s m args below meth c T locs cl sl ∧ Fr n0 locs ∧ T.heap = h ∧ n0 ≤ Array.size h
/-- of h the heap h' has changed the places in L alone -/
def own_Kp (h h' : Heap) (L : List (Addr × Nat)) : Prop := Array.size h ≤ Array.size h' ∧ ∀ (a : Addr) (c : Cell), h[a]? = some c → ∃ c' : Cell, h'[a]? = some c' ∧ c'.cls = c.cls ∧ c'.vm = c.vm ∧ c'.slots.size = c.slots.size ∧ (∀ i, (a, i) ∉ L → c'.slots[i]? = c.slots[i]?) ∧ ((∀ i, (a, i) ∉ L) → c' = c)
/-- what a body leaves: it wrote nothing older than n0, and P holds of what it returns and of the heap -/
def own_QQ (n0 : Nat) (P : Option Value → Heap → Prop) (v : Option Value) (h : Heap) (L : List Loc) : Prop := Fr n0 L ∧ P v h
/-- it returns r, and P holds of the heap -/
def own_R (r : Option Value) (P : Heap → Prop) (v : Option Value) (h : Heap) : Prop := v = r ∧ P h
theorem own_Kp.refl (h : Heap) (L : List (Addr × Nat)) : own_Kp h h L := ⟨Nat.le_refl _, fun a c q => ⟨c, q, rfl, rfl, rfl, fun _ _ => rfl, fun _ => rfl⟩⟩
theorem own_Kp.of_ext {h h' : Heap} (E : Ext h h') (L : List (Addr × Nat)) : own_Kp h h' L := ⟨E.1, fun a c q => ⟨c, E.2 a c q, rfl, rfl, rfl, fun _ _ => rfl, fun _ => rfl⟩⟩
theorem own_Kp.of_wr {h h' : Heap} {a : Addr} {sl : Nat} {v : Value} (W : Wr h h' a sl v) : own_Kp h h' [(a, sl)] := by
  refine ⟨Nat.le_of_eq W.size.symm, fun b c q => ?_⟩
  obtain ⟨c', e1, e2, e3, e4, e5, e6, -⟩ := wr_at W q
  refine ⟨c', e1, e2, e3, e4, fun i hi => ?_, fun hi => e5 fun e => hi sl (by rw [e]; exact List.mem_singleton.mpr rfl)⟩
  by_cases hb : b = a
  · exact e6 i fun e => hi (by rw [hb, e]; exact List.mem_singleton.mpr rfl)
  · rw [e5 hb]
theorem own_Kp.trans {h0 h h' : Heap} {L L' : List (Addr × Nat)} (K : own_Kp h0 h L) (K' : own_Kp h h' L') (q : ∀ x ∈ L', x ∈ L ∨ Array.size h0 ≤ x.1) : own_Kp h0 h' L := by
  refine ⟨Nat.le_trans K.1 K'.1, fun a c hc => ?_⟩
  obtain ⟨c1, a1, a2, a3, a4, a5, a6⟩ := K.2 a c hc
  obtain ⟨c2, b1, b2, b3, b4, b5, b6⟩ := K'.2 a c1 a1
  have ha : a < Array.size h0 := (Array.getElem?_eq_some_iff.mp hc).1
  have no : ∀ i, (a, i) ∉ L → (a, i) ∉ L' := fun i hi hj => (q (a, i) hj).elim hi fun z => absurd ha (Nat.not_lt.mpr z)
  exact ⟨c2, b1, b2.trans a2, b3.trans a3, b4.trans a4, fun i hi => (b5 i (no i hi)).trans (a5 i hi), fun hi => (b6 fun i => no i (hi i)).trans (a6 hi)⟩
theorem own_all0 {P : Addr × Nat → Prop} : ∀ x ∈ ([] : List (Addr × Nat)), P x := fun _ q => nomatch q
theorem own_allS {P : Addr × Nat → Prop} {y : Addr × Nat} {L : List (Addr × Nat)} (q : P y) (r : ∀ x ∈ L, P x) : ∀ x ∈ y :: L, P x := fun x z => (List.mem_cons.mp z).elim (fun u => u ▸ q) (r x)
theorem own_nin0 {x : Addr × Nat} : x ∉ ([] : List (Addr × Nat)) := fun q => nomatch q
theorem own_nin {a b : Addr} {i j : Nat} {L : List (Addr × Nat)} (q : a ≠ b ∨ i ≠ j) (r : (a, i) ∉ L) : (a, i) ∉ (b, j) :: L := fun z => (List.mem_cons.mp z).elim (fun e => q.elim (fun k => k (Prod.mk.inj e).1) (fun k => k (Prod.mk.inj e).2)) r
theorem own_nl {a b : Addr} {i j : Nat} {L : List (Addr × Nat)} (q : a ≠ b) (r : (a, i) ∉ L) : (a, i) ∉ (b, j) :: L := own_nin (Or.inl q) r
theorem own_nr {a b : Addr} {i j : Nat} {L : List (Addr × Nat)} (q : i ≠ j) (r : (a, i) ∉ L) : (a, i) ∉ (b, j) :: L := own_nin (Or.inr q) r
theorem own_out0 {a : Addr} : ∀ i, (a, i) ∉ ([] : List (Addr × Nat)) := fun _ q => nomatch q
theorem own_out {a b : Addr} {j : Nat} {L : List (Addr × Nat)} (q : a ≠ b) (r : ∀ i, (a, i) ∉ L) : ∀ i, (a, i) ∉ (b, j) :: L := fun i => own_nin (Or.inl q) (r i)
section Facts
variable {Z : State} {h h' : Heap} {a : Addr} {C n d : String} {v : Value} {L : List (Addr × Nat)}
theorem own_F (F : Fld Z h a C n d v) (K : own_Kp h h' L) (q : (a, Jvm.RoadKit.slotOf Z C n d) ∉ L) : Fld Z h' a C n d v := by
  obtain ⟨cell, cf, k, i, f, h1, h2, h3, h4, h5, h6, h7⟩ := F
  obtain ⟨c', e1, e2, e3, -, e5, -⟩ := K.2 a cell h1
  refine ⟨c', cf, k, i, f, e1, h2, h3, by rw [e3]; exact h4, by rw [e3]; exact h5, by rw [e2]; exact h6, ?_⟩
  have es : Jvm.RoadKit.slotOf Z C n d = f.slot := by simp [Jvm.RoadKit.slotOf, h2]
  rw [es] at q
  rw [e5 _ q]
  exact h7
theorem own_E (F : Exa Z h a C) (K : own_Kp h h' L) : Exa Z h' a C := by
  obtain ⟨cell, k, h1, h2, h3, h4, h5⟩ := F
  obtain ⟨c', e1, e2, e3, e4, -⟩ := K.2 a cell h1
  exact ⟨c', k, e1, by rw [e2]; exact h2, by rw [e2]; exact h3, by rw [e3]; exact h4, by rw [e4]; exact h5⟩
theorem own_St (F : Sta Z h C n d v) (K : own_Kp h h' L) (q : ∀ x ∈ L, ∀ c : Cell, h[x.1]? = some c → c.vm.isStatics = false) : Sta Z h' C n d v := by
  obtain ⟨cf, i, k, f, st, cell, h1, h2, h3, h4, h5, h6, h7⟩ := F
  obtain ⟨c', e1, -, -, -, -, e6⟩ := K.2 st cell h5
  have hq : ∀ i, (st, i) ∉ L := fun i z => by
    rw [q _ z cell h5] at h6
    cases h6
  rw [e6 hq] at e1
  exact ⟨cf, i, k, f, st, cell, h1, h2, h3, h4, e1, h6, h7⟩
theorem own_A {k : ClassId} {ty : FieldType} {z : Int32} {vs : List Value} {dv : Value} (F : Arv Z h a k ty z vs dv) (K : own_Kp h h' L) (q : ∀ i, (a, i) ∉ L) : Arv Z h' a k ty z vs dv := by
  obtain ⟨c, A, r⟩ := F
  obtain ⟨c', e1, -, -, -, -, e6⟩ := K.2 a c A.1
  rw [e6 q] at e1
  exact ⟨c, ⟨e1, A.2⟩, r⟩
theorem own_plain (E : Exa Z h a C) : ∀ c : Cell, h[a]? = some c → c.vm.isStatics = false := fun c hc => by
  obtain ⟨c', k, h1, -, -, h4, -⟩ := E
  cases h1.symm.trans hc
  exact h4
theorem own_plainA {k : ClassId} {ty : FieldType} {z : Int32} {vs : List Value} {dv : Value} (F : Arv Z h a k ty z vs dv) : ∀ c : Cell, h[a]? = some c → c.vm.isStatics = false := fun c hc => by
  obtain ⟨c', A, -⟩ := F
  cases A.1.symm.trans hc
  exact A.plain
end Facts
theorem own_narZ {x : Int32} (h : x = 0 ∨ x = 1) : narrow .boolean (.int x) = .int x := by rcases h with rfl | rfl <;> rfl
theorem own_fitZ {x : Int32} (h : x = 0 ∨ x = 1) : fits .boolean (.int x) = true := by rcases h with rfl | rfl <;> rfl
theorem own_narR {t : FieldType} {v : Value} (ht : t.isReference = true) (h : v.isRef = true) : narrow t v = v := by
  cases t <;> first | (cases ht; done) | (rcases ref_cases h with rfl | ⟨a, rfl⟩ <;> rfl)
theorem own_fitR {t : FieldType} {v : Value} (ht : t.isReference = true) (h : v.isRef = true) : fits t v = true := by
  cases t <;> first | (cases ht; done) | (rcases ref_cases h with rfl | ⟨a, rfl⟩ <;> rfl)
theorem own_catR {v : Value} (h : v.isRef = true) : v.category = 1 := by rcases ref_cases h with rfl | ⟨a, rfl⟩ <;> rfl
theorem own_stV {l l' : Array Slot} {i : Nat} {v : Value} {o : Slot} (hv : v.isRef = true) (hold : l[i]? = some o) (ho : o = .unset ∨ ∃ w, o = .val w ∧ w.category = 1) (q : l.setIfInBounds i (.val v) = l') : storeLocals l i v = some l' := by rw [XS.store1 hold ho (own_catR hv), q]
section Walk
variable {p : Program} {l : Launch} {e : Env} {R : Room} {s : State} {m : MethodId} {args : Array Value} {below : List Frame} {meth : Method} {c : Code} {n0 : Nat} {T : State} {h : Heap} {cl sl : Nat} {K : Outcome → State → Prop} {Z : State} {a0 : Array Value}
  {pc pc' : Nat} {Ls Ls' : Array Slot} {S : List Value} {v u : Value} {x y : Int32} {j i : Int64}
theorem own_st {A B : State} (st : ∀ t, Steps p.tables e below B t → Steps p.tables e below A t) (h : own_Fin p e below K B) : own_Fin p e below K A := by
  obtain ⟨t, o, h1, h2⟩ := h
  exact ⟨t, o, st t h1, h2⟩
theorem own_tr {A B : State} (st : Steps p.tables e below A B) (h : own_Fin p e below K B) : own_Fin p e below K A := by
  obtain ⟨t, o, h1, h2⟩ := h
  exact ⟨t, o, st.trans h1, h2⟩
theorem own_sz (Y : own_S p l e R s m args below meth c n0 T h cl sl) : n0 ≤ Array.size h := by
  obtain ⟨_, _, _, _, q⟩ := Y
  exact q
theorem own_iloadN (Y : own_S p l e R s m args below meth c n0 T h cl sl) (hx : p.tables.exec = Jvm.exec) {q : Fin 4} (hd : decode c.code pc = .ok (.iload_n q, 1)) (hpc : pc + 1 = pc') (hl : Ls[q.val]? = some (.val (.int x))) (k : own_Fin p e below K (T.setTop (mkF m pc' Ls (.int x :: S)))) : own_Fin p e below K (T.setTop (mkF m pc Ls S)) := by
  obtain ⟨locs, X, -⟩ := Y
  subst hpc
  exact own_st (fun t k => XS.iloadN X.here hx rfl hd hl k) k
theorem own_iload (Y : own_S p l e R s m args below meth c n0 T h cl sl) (hx : p.tables.exec = Jvm.exec) {q : Nat} (hd : decode c.code pc = .ok (.iload q, 2)) (hpc : pc + 2 = pc') (hl : Ls[q]? = some (.val (.int x))) (k : own_Fin p e below K (T.setTop (mkF m pc' Ls (.int x :: S)))) : own_Fin p e below K (T.setTop (mkF m pc Ls S)) := by
  obtain ⟨locs, X, -⟩ := Y
  subst hpc
  exact own_st (fun t k => XS.iload X.here hx rfl hd hl k) k
theorem own_lloadN (Y : own_S p l e R s m args below meth c n0 T h cl sl) (hx : p.tables.exec = Jvm.exec) {q : Fin 4} (hd : decode c.code pc = .ok (.lload_n q, 1)) (hpc : pc + 1 = pc') (hl : Ls[q.val]? = some (.val (.long j))) (k : own_Fin p e below K (T.setTop (mkF m pc' Ls (.long j :: S)))) : own_Fin p e below K (T.setTop (mkF m pc Ls S)) := by
  obtain ⟨locs, X, -⟩ := Y
  subst hpc
  exact own_st (fun t k => XS.lloadN X.here hx rfl hd hl k) k
theorem own_lload (Y : own_S p l e R s m args below meth c n0 T h cl sl) (hx : p.tables.exec = Jvm.exec) {q : Nat} (hd : decode c.code pc = .ok (.lload q, 2)) (hpc : pc + 2 = pc') (hl : Ls[q]? = some (.val (.long j))) (k : own_Fin p e below K (T.setTop (mkF m pc' Ls (.long j :: S)))) : own_Fin p e below K (T.setTop (mkF m pc Ls S)) := by
  obtain ⟨locs, X, -⟩ := Y
  subst hpc
  exact own_st (fun t k => XS.lload X.here hx rfl hd hl k) k
theorem own_aloadN (Y : own_S p l e R s m args below meth c n0 T h cl sl) (hx : p.tables.exec = Jvm.exec) {q : Fin 4} (hd : decode c.code pc = .ok (.aload_n q, 1)) (hpc : pc + 1 = pc') (hl : Ls[q.val]? = some (.val v)) (hv : v.isRef = true) (k : own_Fin p e below K (T.setTop (mkF m pc' Ls (v :: S)))) : own_Fin p e below K (T.setTop (mkF m pc Ls S)) := by
  obtain ⟨locs, X, -⟩ := Y
  subst hpc
  exact own_st (fun t k => XS.aloadN X.here hx rfl hd hl hv k) k
theorem own_aload (Y : own_S p l e R s m args below meth c n0 T h cl sl) (hx : p.tables.exec = Jvm.exec) {q : Nat} (hd : decode c.code pc = .ok (.aload q, 2)) (hpc : pc + 2 = pc') (hl : Ls[q]? = some (.val v)) (hv : v.isRef = true) (k : own_Fin p e below K (T.setTop (mkF m pc' Ls (v :: S)))) : own_Fin p e below K (T.setTop (mkF m pc Ls S)) := by
  obtain ⟨locs, X, -⟩ := Y
  subst hpc
  exact own_st (fun t k => XS.aload X.here hx rfl hd hl hv k) k
theorem own_istoreN (Y : own_S p l e R s m args below meth c n0 T h cl sl) (hx : p.tables.exec = Jvm.exec) {q : Fin 4} (hd : decode c.code pc = .ok (.istore_n q, 1)) (hpc : pc + 1 = pc') (hl : storeLocals Ls q.val (.int x) = some Ls') (k : own_Fin p e below K (T.setTop (mkF m pc' Ls' S))) : own_Fin p e below K (T.setTop (mkF m pc Ls ((.int x) :: S))) := by
  obtain ⟨locs, X, -⟩ := Y
  subst hpc
  exact own_st (fun t k => XS.istoreN X.here hx rfl hd rfl hl k) k
theorem own_istore (Y : own_S p l e R s m args below meth c n0 T h cl sl) (hx : p.tables.exec = Jvm.exec) {q : Nat} (hd : decode c.code pc = .ok (.istore q, 2)) (hpc : pc + 2 = pc') (hl : storeLocals Ls q (.int x) = some Ls') (k : own_Fin p e below K (T.setTop (mkF m pc' Ls' S))) : own_Fin p e below K (T.setTop (mkF m pc Ls ((.int x) :: S))) := by
  obtain ⟨locs, X, -⟩ := Y
  subst hpc
  exact own_st (fun t k => XS.istore X.here hx rfl hd rfl hl k) k
theorem own_lstoreN (Y : own_S p l e R s m args below meth c n0 T h cl sl) (hx : p.tables.exec = Jvm.exec) {q : Fin 4} (hd : decode c.code pc = .ok (.lstore_n q, 1)) (hpc : pc + 1 = pc') (hl : storeLocals Ls q.val (.long j) = some Ls') (k : own_Fin p e below K (T.setTop (mkF m pc' Ls' S))) : own_Fin p e below K (T.setTop (mkF m pc Ls ((.long j) :: S))) := by
  obtain ⟨locs, X, -⟩ := Y
  subst hpc
  exact own_st (fun t k => XS.lstoreN X.here hx rfl hd rfl hl k) k
theorem own_lstore (Y : own_S p l e R s m args below meth c n0 T h cl sl) (hx : p.tables.exec = Jvm.exec) {q : Nat} (hd : decode c.code pc = .ok (.lstore q, 2)) (hpc : pc + 2 = pc') (hl : storeLocals Ls q (.long j) = some Ls') (k : own_Fin p e below K (T.setTop (mkF m pc' Ls' S))) : own_Fin p e below K (T.setTop (mkF m pc Ls ((.long j) :: S))) := by
  obtain ⟨locs, X, -⟩ := Y
  subst hpc
  exact own_st (fun t k => XS.lstore X.here hx rfl hd rfl hl k) k
theorem own_astoreN (Y : own_S p l e R s m args below meth c n0 T h cl sl) (hx : p.tables.exec = Jvm.exec) {q : Fin 4} (hd : decode c.code pc = .ok (.astore_n q, 1)) (hpc : pc + 1 = pc') (hv : v.isRef = true) (hl : storeLocals Ls q.val v = some Ls') (k : own_Fin p e below K (T.setTop (mkF m pc' Ls' S))) : own_Fin p e below K (T.setTop (mkF m pc Ls (v :: S))) := by
  obtain ⟨locs, X, -⟩ := Y
  subst hpc
  exact own_st (fun t k => XS.astoreN X.here hx rfl hd rfl hv hl k) k
theorem own_astore (Y : own_S p l e R s m args below meth c n0 T h cl sl) (hx : p.tables.exec = Jvm.exec) {q : Nat} (hd : decode c.code pc = .ok (.astore q, 2)) (hpc : pc + 2 = pc') (hv : v.isRef = true) (hl : storeLocals Ls q v = some Ls') (k : own_Fin p e below K (T.setTop (mkF m pc' Ls' S))) : own_Fin p e below K (T.setTop (mkF m pc Ls (v :: S))) := by
  obtain ⟨locs, X, -⟩ := Y
  subst hpc
  exact own_st (fun t k => XS.astore X.here hx rfl hd rfl hv hl k) k
theorem own_iconst (Y : own_S p l e R s m args below meth c n0 T h cl sl) (hx : p.tables.exec = Jvm.exec) {q : Int} (hd : decode c.code pc = .ok (.iconst q, 1)) (hpc : pc + 1 = pc') (hv : Int32.ofInt q = x) (k : own_Fin p e below K (T.setTop (mkF m pc' Ls (.int x :: S)))) : own_Fin p e below K (T.setTop (mkF m pc Ls S)) := by
  obtain ⟨locs, X, -⟩ := Y
  subst hpc hv
  exact own_st (fun t k => XS.iconst X.here hx rfl hd k) k
theorem own_bipush (Y : own_S p l e R s m args below meth c n0 T h cl sl) (hx : p.tables.exec = Jvm.exec) {q : Int} (hd : decode c.code pc = .ok (.bipush q, 2)) (hpc : pc + 2 = pc') (hv : (Int8.ofInt q).toInt32 = x) (k : own_Fin p e below K (T.setTop (mkF m pc' Ls (.int x :: S)))) : own_Fin p e below K (T.setTop (mkF m pc Ls S)) := by
  obtain ⟨locs, X, -⟩ := Y
  subst hpc hv
  exact own_st (fun t k => XS.bipush X.here hx rfl hd k) k
theorem own_sipush (Y : own_S p l e R s m args below meth c n0 T h cl sl) (hx : p.tables.exec = Jvm.exec) {q : Int} (hd : decode c.code pc = .ok (.sipush q, 3)) (hpc : pc + 3 = pc') (hv : (Int16.ofInt q).toInt32 = x) (k : own_Fin p e below K (T.setTop (mkF m pc' Ls (.int x :: S)))) : own_Fin p e below K (T.setTop (mkF m pc Ls S)) := by
  obtain ⟨locs, X, -⟩ := Y
  subst hpc hv
  exact own_st (fun t k => XS.sipush X.here hx rfl hd k) k
theorem own_aconstNull (Y : own_S p l e R s m args below meth c n0 T h cl sl) (hx : p.tables.exec = Jvm.exec) (hd : decode c.code pc = .ok (.aconst_null, 1)) (hpc : pc + 1 = pc') (k : own_Fin p e below K (T.setTop (mkF m pc' Ls (.null :: S)))) : own_Fin p e below K (T.setTop (mkF m pc Ls S)) := by
  obtain ⟨locs, X, -⟩ := Y
  subst hpc
  exact own_st (fun t k => XS.aconstNull X.here hx rfl hd k) k
theorem own_iadd (Y : own_S p l e R s m args below meth c n0 T h cl sl) (hx : p.tables.exec = Jvm.exec) {z : Int32} (hd : decode c.code pc = .ok (.iadd, 1)) (hpc : pc + 1 = pc') (hv : x + y = z) (k : own_Fin p e below K (T.setTop (mkF m pc' Ls (.int z :: S)))) : own_Fin p e below K (T.setTop (mkF m pc Ls (.int y :: .int x :: S))) := by
  obtain ⟨locs, X, -⟩ := Y
  subst hpc hv
  exact own_st (fun t k => XS.iadd X.here hx rfl hd rfl k) k
theorem own_isub (Y : own_S p l e R s m args below meth c n0 T h cl sl) (hx : p.tables.exec = Jvm.exec) {z : Int32} (hd : decode c.code pc = .ok (.isub, 1)) (hpc : pc + 1 = pc') (hv : x - y = z) (k : own_Fin p e below K (T.setTop (mkF m pc' Ls (.int z :: S)))) : own_Fin p e below K (T.setTop (mkF m pc Ls (.int y :: .int x :: S))) := by
  obtain ⟨locs, X, -⟩ := Y
  subst hpc hv
  exact own_st (fun t k => XS.isub X.here hx rfl hd rfl k) k
theorem own_imul (Y : own_S p l e R s m args below meth c n0 T h cl sl) (hx : p.tables.exec = Jvm.exec) {z : Int32} (hd : decode c.code pc = .ok (.imul, 1)) (hpc : pc + 1 = pc') (hv : x * y = z) (k : own_Fin p e below K (T.setTop (mkF m pc' Ls (.int z :: S)))) : own_Fin p e below K (T.setTop (mkF m pc Ls (.int y :: .int x :: S))) := by
  obtain ⟨locs, X, -⟩ := Y
  subst hpc hv
  exact own_st (fun t k => XS.imul X.here hx rfl hd rfl k) k
theorem own_iand (Y : own_S p l e R s m args below meth c n0 T h cl sl) (hx : p.tables.exec = Jvm.exec) {z : Int32} (hd : decode c.code pc = .ok (.iand, 1)) (hpc : pc + 1 = pc') (hv : x &&& y = z) (k : own_Fin p e below K (T.setTop (mkF m pc' Ls (.int z :: S)))) : own_Fin p e below K (T.setTop (mkF m pc Ls (.int y :: .int x :: S))) := by
  obtain ⟨locs, X, -⟩ := Y
  subst hpc hv
  exact own_st (fun t k => XS.iand X.here hx rfl hd rfl k) k
theorem own_ior (Y : own_S p l e R s m args below meth c n0 T h cl sl) (hx : p.tables.exec = Jvm.exec) {z : Int32} (hd : decode c.code pc = .ok (.ior, 1)) (hpc : pc + 1 = pc') (hv : x ||| y = z) (k : own_Fin p e below K (T.setTop (mkF m pc' Ls (.int z :: S)))) : own_Fin p e below K (T.setTop (mkF m pc Ls (.int y :: .int x :: S))) := by
  obtain ⟨locs, X, -⟩ := Y
  subst hpc hv
  exact own_st (fun t k => XS.ior X.here hx rfl hd rfl k) k
theorem own_ixor (Y : own_S p l e R s m args below meth c n0 T h cl sl) (hx : p.tables.exec = Jvm.exec) {z : Int32} (hd : decode c.code pc = .ok (.ixor, 1)) (hpc : pc + 1 = pc') (hv : x ^^^ y = z) (k : own_Fin p e below K (T.setTop (mkF m pc' Ls (.int z :: S)))) : own_Fin p e below K (T.setTop (mkF m pc Ls (.int y :: .int x :: S))) := by
  obtain ⟨locs, X, -⟩ := Y
  subst hpc hv
  exact own_st (fun t k => XS.ixor X.here hx rfl hd rfl k) k
theorem own_ishl (Y : own_S p l e R s m args below meth c n0 T h cl sl) (hx : p.tables.exec = Jvm.exec) {z : Int32} (hd : decode c.code pc = .ok (.ishl, 1)) (hpc : pc + 1 = pc') (hv : (x <<< (y &&& 31)) = z) (k : own_Fin p e below K (T.setTop (mkF m pc' Ls (.int z :: S)))) : own_Fin p e below K (T.setTop (mkF m pc Ls (.int y :: .int x :: S))) := by
  obtain ⟨locs, X, -⟩ := Y
  subst hpc hv
  exact own_st (fun t k => XS.ishl X.here hx rfl hd rfl k) k
theorem own_ishr (Y : own_S p l e R s m args below meth c n0 T h cl sl) (hx : p.tables.exec = Jvm.exec) {z : Int32} (hd : decode c.code pc = .ok (.ishr, 1)) (hpc : pc + 1 = pc') (hv : (x >>> (y &&& 31)) = z) (k : own_Fin p e below K (T.setTop (mkF m pc' Ls (.int z :: S)))) : own_Fin p e below K (T.setTop (mkF m pc Ls (.int y :: .int x :: S))) := by
  obtain ⟨locs, X, -⟩ := Y
  subst hpc hv
  exact own_st (fun t k => XS.ishr X.here hx rfl hd rfl k) k
theorem own_iushr (Y : own_S p l e R s m args below meth c n0 T h cl sl) (hx : p.tables.exec = Jvm.exec) {z : Int32} (hd : decode c.code pc = .ok (.iushr, 1)) (hpc : pc + 1 = pc') (hv : ((x.toUInt32 >>> (y &&& 31).toUInt32).toInt32) = z) (k : own_Fin p e below K (T.setTop (mkF m pc' Ls (.int z :: S)))) : own_Fin p e below K (T.setTop (mkF m pc Ls (.int y :: .int x :: S))) := by
  obtain ⟨locs, X, -⟩ := Y
  subst hpc hv
  exact own_st (fun t k => XS.iushr X.here hx rfl hd rfl k) k
theorem own_irem (Y : own_S p l e R s m args below meth c n0 T h cl sl) (hx : p.tables.exec = Jvm.exec) {z : Int32} (hd : decode c.code pc = .ok (.irem, 1)) (hpc : pc + 1 = pc') (hy : y ≠ 0) (hv : x % y = z) (k : own_Fin p e below K (T.setTop (mkF m pc' Ls (.int z :: S)))) : own_Fin p e below K (T.setTop (mkF m pc Ls (.int y :: .int x :: S))) := by
  obtain ⟨locs, X, -⟩ := Y
  subst hpc hv
  exact own_st (fun t k => iremM X hx rfl hd rfl hy k) k
theorem own_i2c (Y : own_S p l e R s m args below meth c n0 T h cl sl) (hx : p.tables.exec = Jvm.exec) {z : Int32} (hd : decode c.code pc = .ok (.i2c, 1)) (hpc : pc + 1 = pc') (hv : x.toUInt32.toUInt16.toUInt32.toInt32 = z) (k : own_Fin p e below K (T.setTop (mkF m pc' Ls (.int z :: S)))) : own_Fin p e below K (T.setTop (mkF m pc Ls (.int x :: S))) := by
  obtain ⟨locs, X, -⟩ := Y
  subst hpc hv
  exact own_st (fun t k => XS.i2c X.here hx rfl hd rfl k) k
theorem own_i2b (Y : own_S p l e R s m args below meth c n0 T h cl sl) (hx : p.tables.exec = Jvm.exec) {z : Int32} (hd : decode c.code pc = .ok (.i2b, 1)) (hpc : pc + 1 = pc') (hv : x.toInt8.toInt32 = z) (k : own_Fin p e below K (T.setTop (mkF m pc' Ls (.int z :: S)))) : own_Fin p e below K (T.setTop (mkF m pc Ls (.int x :: S))) := by
  obtain ⟨locs, X, -⟩ := Y
  subst hpc hv
  exact own_st (fun t k => XS.i2b X.here hx rfl hd rfl k) k
theorem own_pop (Y : own_S p l e R s m args below meth c n0 T h cl sl) (hx : p.tables.exec = Jvm.exec) (hd : decode c.code pc = .ok (.pop, 1)) (hpc : pc + 1 = pc') (hc : v.category = 1) (k : own_Fin p e below K (T.setTop (mkF m pc' Ls S))) : own_Fin p e below K (T.setTop (mkF m pc Ls (v :: S))) := by
  obtain ⟨locs, X, -⟩ := Y
  subst hpc
  exact own_st (fun t k => XS.pop X.here hx rfl hd rfl hc k) k
theorem own_dup (Y : own_S p l e R s m args below meth c n0 T h cl sl) (hx : p.tables.exec = Jvm.exec) (hd : decode c.code pc = .ok (.dup, 1)) (hpc : pc + 1 = pc') (hc : v.category = 1) (k : own_Fin p e below K (T.setTop (mkF m pc' Ls (v :: v :: S)))) : own_Fin p e below K (T.setTop (mkF m pc Ls (v :: S))) := by
  obtain ⟨locs, X, -⟩ := Y
  subst hpc
  exact own_st (fun t k => XS.dup X.here hx rfl hd rfl hc k) k
theorem own_dupX1 (Y : own_S p l e R s m args below meth c n0 T h cl sl) (hx : p.tables.exec = Jvm.exec) (hd : decode c.code pc = .ok (.dup_x1, 1)) (hpc : pc + 1 = pc') (hc : v.category = 1) (hu : u.category = 1) (k : own_Fin p e below K (T.setTop (mkF m pc' Ls (v :: u :: v :: S)))) : own_Fin p e below K (T.setTop (mkF m pc Ls (v :: u :: S))) := by
  obtain ⟨locs, X, -⟩ := Y
  subst hpc
  exact own_st (fun t k => XS.dupX1 X.here hx rfl hd rfl hc hu k) k
theorem own_goto (Y : own_S p l e R s m args below meth c n0 T h cl sl) (hx : p.tables.exec = Jvm.exec) {o : Int} (hd : decode c.code pc = .ok (.goto o, 3)) (ho : 0 ≤ (pc : Int) + o) (hp : ((pc : Int) + o).toNat = pc') (k : own_Fin p e below K (T.setTop (mkF m pc' Ls S))) : own_Fin p e below K (T.setTop (mkF m pc Ls S)) := by
  obtain ⟨locs, X, -⟩ := Y
  exact own_st (fun t k => XS.goto X.here hx rfl rfl hd ho hp k) k
theorem own_ifYes (Y : own_S p l e R s m args below meth c n0 T h cl sl) (hx : p.tables.exec = Jvm.exec) {cd : ClassFile.Cond} {o : Int} (hd : decode c.code pc = .ok (.ifCond cd o, 3)) (hc : ifCond.holds cd x = true) (ho : 0 ≤ (pc : Int) + o) (hp : ((pc : Int) + o).toNat = pc') (k : own_Fin p e below K (T.setTop (mkF m pc' Ls S))) : own_Fin p e below K (T.setTop (mkF m pc Ls (.int x :: S))) := by
  obtain ⟨locs, X, -⟩ := Y
  exact own_st (fun t k => XS.ifYes X.here hx rfl rfl hd rfl hc ho hp k) k
theorem own_icmpYes (Y : own_S p l e R s m args below meth c n0 T h cl sl) (hx : p.tables.exec = Jvm.exec) {cd : ClassFile.Cond} {o : Int} (hd : decode c.code pc = .ok (.if_icmp cd o, 3)) (hc : if_icmp.holds cd x y = true) (ho : 0 ≤ (pc : Int) + o) (hp : ((pc : Int) + o).toNat = pc') (k : own_Fin p e below K (T.setTop (mkF m pc' Ls S))) : own_Fin p e below K (T.setTop (mkF m pc Ls (.int y :: .int x :: S))) := by
  obtain ⟨locs, X, -⟩ := Y
  exact own_st (fun t k => XS.icmpYes X.here hx rfl rfl hd rfl hc ho hp k) k
theorem own_ifNo (Y : own_S p l e R s m args below meth c n0 T h cl sl) (hx : p.tables.exec = Jvm.exec) {cd : ClassFile.Cond} {o : Int} (hd : decode c.code pc = .ok (.ifCond cd o, 3)) (hpc : pc + 3 = pc') (hc : ifCond.holds cd x = false) (k : own_Fin p e below K (T.setTop (mkF m pc' Ls S))) : own_Fin p e below K (T.setTop (mkF m pc Ls (.int x :: S))) := by
  obtain ⟨locs, X, -⟩ := Y
  subst hpc
  exact own_st (fun t k => XS.ifNo X.here hx rfl hd rfl hc k) k
theorem own_icmpNo (Y : own_S p l e R s m args below meth c n0 T h cl sl) (hx : p.tables.exec = Jvm.exec) {cd : ClassFile.Cond} {o : Int} (hd : decode c.code pc = .ok (.if_icmp cd o, 3)) (hpc : pc + 3 = pc') (hc : if_icmp.holds cd x y = false) (k : own_Fin p e below K (T.setTop (mkF m pc' Ls S))) : own_Fin p e below K (T.setTop (mkF m pc Ls (.int y :: .int x :: S))) := by
  obtain ⟨locs, X, -⟩ := Y
  subst hpc
  exact own_st (fun t k => XS.icmpNo X.here hx rfl hd rfl hc k) k
theorem own_acmp (Y : own_S p l e R s m args below meth c n0 T h cl sl) (hx : p.tables.exec = Jvm.exec) {cd : ACond} {o : Int} {same : Bool} (hd : decode c.code pc = .ok (.if_acmp cd o, 3)) (h1 : u.isRef = true) (h2 : v.isRef = true) (hq : decide (u = v) = same) (ho : 0 ≤ (pc : Int) + o) (hp : pc' = if acV cd same = true then ((pc : Int) + o).toNat else pc + 3) (k : own_Fin p e below K (T.setTop (mkF m pc' Ls S))) : own_Fin p e below K (T.setTop (mkF m pc Ls (v :: u :: S))) := by
  obtain ⟨locs, X, -⟩ := Y
  exact own_st (fun t k => Jvm.RoadKit.acmp X hx rfl h1 h2 rfl hd rfl hq ho hp k) k
theorem own_ifnullYes (Y : own_S p l e R s m args below meth c n0 T h cl sl) (hx : p.tables.exec = Jvm.exec) {o : Int} (hd : decode c.code pc = .ok (.ifnull o, 3)) (ho : 0 ≤ (pc : Int) + o) (hp : ((pc : Int) + o).toNat = pc') (k : own_Fin p e below K (T.setTop (mkF m pc' Ls S))) : own_Fin p e below K (T.setTop (mkF m pc Ls (.null :: S))) := by
  obtain ⟨locs, X, -⟩ := Y
  exact own_st (fun t k => XS.ifnullYes X.here hx rfl rfl hd rfl ho hp k) k
theorem own_ifnullNo (Y : own_S p l e R s m args below meth c n0 T h cl sl) (hx : p.tables.exec = Jvm.exec) {o : Int} {b : Addr} (hd : decode c.code pc = .ok (.ifnull o, 3)) (hpc : pc + 3 = pc') (k : own_Fin p e below K (T.setTop (mkF m pc' Ls S))) : own_Fin p e below K (T.setTop (mkF m pc Ls (.ref b :: S))) := by
  obtain ⟨locs, X, -⟩ := Y
  subst hpc
  exact own_st (fun t k => XS.ifnullNo X.here hx rfl hd rfl k) k
theorem own_ifnonnullYes (Y : own_S p l e R s m args below meth c n0 T h cl sl) (hx : p.tables.exec = Jvm.exec) {o : Int} {b : Addr} (hd : decode c.code pc = .ok (.ifnonnull o, 3)) (ho : 0 ≤ (pc : Int) + o) (hp : ((pc : Int) + o).toNat = pc') (k : own_Fin p e below K (T.setTop (mkF m pc' Ls S))) : own_Fin p e below K (T.setTop (mkF m pc Ls (.ref b :: S))) := by
  obtain ⟨locs, X, -⟩ := Y
  exact own_st (fun t k => XS.ifnonnullYes X.here hx rfl rfl hd rfl ho hp k) k
theorem own_ifnonnullNo (Y : own_S p l e R s m args below meth c n0 T h cl sl) (hx : p.tables.exec = Jvm.exec) {o : Int} (hd : decode c.code pc = .ok (.ifnonnull o, 3)) (hpc : pc + 3 = pc') (k : own_Fin p e below K (T.setTop (mkF m pc' Ls S))) : own_Fin p e below K (T.setTop (mkF m pc Ls (.null :: S))) := by
  obtain ⟨locs, X, -⟩ := Y
  subst hpc
  exact own_st (fun t k => XS.ifnonnullNo X.here hx rfl hd rfl k) k
theorem own_tswIn (Y : own_S p l e R s m args below meth c n0 T h cl sl) (hx : p.tables.exec = Jvm.exec) {dflt low high : Int} {offs : Array Int} {len : Nat} {o : Int} (hd : decode c.code pc = .ok (.tableswitch dflt low high offs, len)) (hin : ¬ (x.toInt < low ∨ x.toInt > high)) (hoff : offs[(x.toInt - low).toNat]? = some o) (ho : 0 ≤ (pc : Int) + o) (hp : ((pc : Int) + o).toNat = pc') (k : own_Fin p e below K (T.setTop (mkF m pc' Ls S))) : own_Fin p e below K (T.setTop (mkF m pc Ls (.int x :: S))) := by
  obtain ⟨locs, X, -⟩ := Y
  exact own_st (fun t k => XS.tswIn X.here hx rfl rfl hd rfl hin hoff ho hp k) k
theorem own_tswOut (Y : own_S p l e R s m args below meth c n0 T h cl sl) (hx : p.tables.exec = Jvm.exec) {dflt low high : Int} {offs : Array Int} {len : Nat} (hd : decode c.code pc = .ok (.tableswitch dflt low high offs, len)) (hout : x.toInt < low ∨ x.toInt > high) (ho : 0 ≤ (pc : Int) + dflt) (hp : ((pc : Int) + dflt).toNat = pc') (k : own_Fin p e below K (T.setTop (mkF m pc' Ls S))) : own_Fin p e below K (T.setTop (mkF m pc Ls (.int x :: S))) := by
  obtain ⟨locs, X, -⟩ := Y
  exact own_st (fun t k => XS.tswOut X.here hx rfl rfl hd rfl hout ho hp k) k
theorem own_ldcI (Y : own_S p l e R s m args below meth c n0 T h cl sl) (hx : p.tables.exec = Jvm.exec) {own : String} {index : Nat} (hZ : Z.Warmed39 s.vm) (hown : s.vm.findClass own = some m.cls) (w : (Jvm.Cond.constant own index x).before a0 Z = true) (hd : decode c.code pc = .ok (.ldc index, 2)) (hpc : pc + 2 = pc') (k : own_Fin p e below K (T.setTop (mkF m pc' Ls (.int x :: S)))) : own_Fin p e below K (T.setTop (mkF m pc Ls S)) := by
  obtain ⟨locs, X, -⟩ := Y
  subst hpc
  exact own_st (fun t k => X.ldcI hx hown (mvT hZ w) rfl hd k) k
theorem own_getS (Y : own_S p l e R s m args below meth c n0 T h cl sl) (hx : p.tables.exec = Jvm.exec) {own R0 O n d host : String} {index : Nat} (hZ : Z.Warmed39 s.vm) (hown : s.vm.findClass own = some m.cls) (w : (Jvm.Cond.fieldLink own index R0 n d).before a0 Z = true ∨ (Jvm.Cond.fieldLinkNest own index R0 n d host).before a0 Z = true) (via : Via Z R0 O n d) (F : Sta Z h O n d v)
    (hd : decode c.code pc = .ok (.getstatic index, 3)) (hpc : pc + 3 = pc') (k : ∀ T', own_S p l e R s m args below meth c n0 T' h cl sl → own_Fin p e below K (T'.setTop (mkF m pc' Ls (v :: S)))) : own_Fin p e below K (T.setTop (mkF m pc Ls S)) := by
  obtain ⟨locs, X, N, e0, hn0⟩ := Y
  obtain ⟨T', X', e', st⟩ := getS2 X hx hZ hown w via e0 F (g := mkF m pc Ls S) rfl hd
  subst hpc
  exact own_st st (k T' ⟨locs, X', N, e', hn0⟩)
theorem own_getF (Y : own_S p l e R s m args below meth c n0 T h cl sl) (hx : p.tables.exec = Jvm.exec) {own R0 O n d host : String} {index : Nat} {a : Addr} (hZ : Z.Warmed39 s.vm) (hown : s.vm.findClass own = some m.cls) (w : (Jvm.Cond.fieldLink own index R0 n d).before a0 Z = true ∨ (Jvm.Cond.fieldLinkNest own index R0 n d host).before a0 Z = true) (via : Via Z R0 O n d) (F : Fld Z h a O n d v)
    (hd : decode c.code pc = .ok (.getfield index, 3)) (hpc : pc + 3 = pc') (k : ∀ T', own_S p l e R s m args below meth c n0 T' h cl sl → own_Fin p e below K (T'.setTop (mkF m pc' Ls (v :: S)))) : own_Fin p e below K (T.setTop (mkF m pc Ls (.ref a :: S))) := by
  obtain ⟨locs, X, N, e0, hn0⟩ := Y
  obtain ⟨T', X', e', st⟩ := getF X hx hZ hown w via e0 F (g := mkF m pc Ls (.ref a :: S)) rfl rfl hd
  subst hpc
  exact own_st st (k T' ⟨locs, X', N, e', hn0⟩)
theorem own_putF (Y : own_S p l e R s m args below meth c n0 T h cl sl) (hx : p.tables.exec = Jvm.exec) {own R0 O n d host C : String} {index kk : Nat} {a : Addr} {ty : FieldType} {old : Value} (hZ : Z.Warmed39 s.vm) (hown : s.vm.findClass own = some m.cls) (w : (Jvm.Cond.fieldLink own index R0 n d).before a0 Z = true ∨ (Jvm.Cond.fieldLinkNest own index R0 n d host).before a0 Z = true) (via : Via Z R0 O n d) (F : Fld Z h a O n d old) (E : Exa Z h a C)
    (L : (Jvm.Cond.lays C O n d).before a0 Z = true ∨ ((Jvm.Cond.laysFinal C O n d).before a0 Z = true ∧ own = O ∧ meth.name = "<init>")) (wi : (Jvm.Cond.instantiable C kk).before a0 Z = true) (hty : parseFieldDescriptor d = some ty) (hn : narrow ty v = v) (hf : fits ty v = true) (ha : n0 ≤ a)
    (hd : decode c.code pc = .ok (.putfield index, 3)) (hpc : pc + 3 = pc') (k : ∀ T' h', own_S p l e R s m args below meth c n0 T' h' cl sl → own_Kp h h' [(a, Jvm.RoadKit.slotOf Z O n d)] → Fld Z h' a O n d v → own_Fin p e below K (T'.setTop (mkF m pc' Ls S))) : own_Fin p e below K (T.setTop (mkF m pc Ls (v :: .ref a :: S))) := by
  obtain ⟨locs, X, N, e0, hn0⟩ := Y
  obtain ⟨T', h', X', e', W, st⟩ := putF X hx hZ hown w via e0 F E L wi hty hn hf (g := mkF m pc Ls (v :: .ref a :: S)) rfl rfl hd
  subst hpc
  exact own_st st (k T' h' ⟨_, X', Fr.snoc X' N ha, e', by rw [W.size]; exact hn0⟩ (own_Kp.of_wr W) (F.same W))
theorem own_new (Y : own_S p l e R s m args below meth c n0 T h cl sl) (hx : p.tables.exec = Jvm.exec) {own C : String} {index n cl' sl' : Nat} (hZ : Z.Warmed39 s.vm) (hown : s.vm.findClass own = some m.cls) (w : (Jvm.Cond.classLink own index C).before a0 Z = true) (wi : (Jvm.Cond.instantiable C n).before a0 Z = true) (wz : (Jvm.Cond.initialized C).before a0 Z = true)
    (hd : decode c.code pc = .ok (.new index, 3)) (hpc : pc + 3 = pc') (hcl : cl + 1 = cl') (hsl : sl + n = sl') (hc : cl' ≤ R.cells) (hl : sl' ≤ R.slots)
    (k : ∀ T' h' b, own_S p l e R s m args below meth c n0 T' h' cl' sl' → own_Kp h h' [] → Array.size h ≤ b → Exa Z h' b C → (∀ {O nm d : String} {ty : FieldType}, Laid Z a0 C O nm d → parseFieldDescriptor d = some ty → Fld Z h' b O nm d (defaultValue ty)) → own_Fin p e below K (T'.setTop (mkF m pc' Ls (.ref b :: S)))) : own_Fin p e below K (T.setTop (mkF m pc Ls S)) := by
  obtain ⟨locs, X, N, e0, hn0⟩ := Y
  subst hpc hcl hsl
  obtain ⟨T', h', X', e', E, A, D, -, st⟩ := newO X hx hZ hown w wi wz e0 (g := mkF m pc Ls S) rfl hd hc hl
  exact own_st st (k T' h' _ ⟨locs, X', N, e', Nat.le_trans hn0 E.1⟩ (own_Kp.of_ext E []) (Nat.le_refl _) A D)
theorem own_castY (Y : own_S p l e R s m args below meth c n0 T h cl sl) (hx : p.tables.exec = Jvm.exec) {own C : String} {index : Nat} {a : Addr} (hZ : Z.Warmed39 s.vm) (hown : s.vm.findClass own = some m.cls) (w : (Jvm.Cond.classLink own index C).before a0 Z = true) (F : Ins Z h a C true)
    (hd : decode c.code pc = .ok (.checkcast index, 3)) (hpc : pc + 3 = pc') (k : ∀ T', own_S p l e R s m args below meth c n0 T' h cl sl → own_Fin p e below K (T'.setTop (mkF m pc' Ls (.ref a :: S)))) : own_Fin p e below K (T.setTop (mkF m pc Ls (.ref a :: S))) := by
  obtain ⟨locs, X, N, e0, hn0⟩ := Y
  obtain ⟨T', X', e', st⟩ := castY X hx hZ hown w e0 F (g := mkF m pc Ls (.ref a :: S)) rfl rfl hd
  subst hpc
  exact own_st st (k T' ⟨locs, X', N, e', hn0⟩)
theorem own_castNull (Y : own_S p l e R s m args below meth c n0 T h cl sl) (hx : p.tables.exec = Jvm.exec) {index : Nat} (hd : decode c.code pc = .ok (.checkcast index, 3)) (hpc : pc + 3 = pc') (k : own_Fin p e below K (T.setTop (mkF m pc' Ls (.null :: S)))) : own_Fin p e below K (T.setTop (mkF m pc Ls (.null :: S))) := by
  obtain ⟨locs, X, N, e0, hn0⟩ := Y
  subst hpc
  exact own_st (fun t k => X.checkcastNull hx (g := mkF m pc Ls (.null :: S)) rfl rfl hd t k) k
theorem own_instY (Y : own_S p l e R s m args below meth c n0 T h cl sl) (hx : p.tables.exec = Jvm.exec) {own C : String} {index : Nat} {a : Addr} (hZ : Z.Warmed39 s.vm) (hown : s.vm.findClass own = some m.cls) (w : (Jvm.Cond.classLink own index C).before a0 Z = true) (F : Ins Z h a C true)
    (hd : decode c.code pc = .ok (.instanceof index, 3)) (hpc : pc + 3 = pc') (k : ∀ T', own_S p l e R s m args below meth c n0 T' h cl sl → own_Fin p e below K (T'.setTop (mkF m pc' Ls (.int (1 : Int32) :: S)))) : own_Fin p e below K (T.setTop (mkF m pc Ls (.ref a :: S))) := by
  obtain ⟨locs, X, N, e0, hn0⟩ := Y
  obtain ⟨T', X', e', st⟩ := instY X hx hZ hown w e0 F (g := mkF m pc Ls (.ref a :: S)) rfl rfl hd
  subst hpc
  exact own_st st (k T' ⟨locs, X', N, e', hn0⟩)
theorem own_instN (Y : own_S p l e R s m args below meth c n0 T h cl sl) (hx : p.tables.exec = Jvm.exec) {own C C' : String} {index : Nat} {a : Addr} (hZ : Z.Warmed39 s.vm) (hown : s.vm.findClass own = some m.cls) (w : (Jvm.Cond.classLink own index C).before a0 Z = true) (E : Exa Z h a C') (F : ∃ c t, Z.vm.findClass C' = some c ∧ Z.vm.findClass C = some t ∧ Z.vm.assignable c t = false)
    (hd : decode c.code pc = .ok (.instanceof index, 3)) (hpc : pc + 3 = pc') (k : ∀ T', own_S p l e R s m args below meth c n0 T' h cl sl → own_Fin p e below K (T'.setTop (mkF m pc' Ls (.int (0 : Int32) :: S)))) : own_Fin p e below K (T.setTop (mkF m pc Ls (.ref a :: S))) := by
  obtain ⟨locs, X, N, e0, hn0⟩ := Y
  obtain ⟨T', X', e', st⟩ := instNo X hx hZ hown w e0 E F (g := mkF m pc Ls (.ref a :: S)) rfl rfl hd
  subst hpc
  exact own_st st (k T' ⟨locs, X', N, e', hn0⟩)
theorem own_initO (Y : own_S p l e R s m args below meth c n0 T h cl sl) (hx : p.tables.exec = Jvm.exec) {own : String} {index : Nat} {a : Addr} {W : Nat} (hZ : Z.Warmed39 s.vm) (hown : s.vm.findClass own = some m.cls) (w1 : (Jvm.Cond.methodLink own index Lib.objectInit).before a0 Z = true) (w2 : (Jvm.Cond.instanceMethod Lib.objectInit).before a0 Z = true) (w3 : (Jvm.Cond.code Lib.objectInit ⟨#[0xb1]⟩ 1 none).before a0 Z = true)
    (hd : decode c.code pc = .ok (.invokespecial index, 3)) (hpc : pc + 3 = pc') (hsize : Ls.size = c.maxLocals) (hf : 1 ≤ R.frames) (hW : (S.map fun v => v.category).sum = W) (hl : W + 12 ≤ R.locals)
    (k : ∀ T', own_S p l e R s m args below meth c n0 T' h cl sl → own_Fin p e below K (T'.setTop (mkF m pc' Ls S))) : own_Fin p e below K (T.setTop (mkF m pc Ls (.ref a :: S))) := by
  obtain ⟨locs, X, N, e0, hn0⟩ := Y
  obtain ⟨T', X', e', st⟩ := initO X hx hZ hown w1 w2 w3 e0 (g := mkF m pc Ls (.ref a :: S)) rfl hsize rfl hd hf (W := W) (by show 2 * 0 + _ ≤ _; omega) hl
  subst hpc
  exact own_st st (k T' ⟨locs, X', N, e', hn0⟩)
/-! calls -/
/-- where a call has come back: the state, its heap, what the callee's P says -/
abbrev own_Back (p : Program) (l : Launch) (e : Env) (R : Room) (s : State) (m : MethodId) (args : Array Value) (below : List Frame) (meth : Method) (c : Code) (n0 cl' sl' : Nat) (K : Outcome → State → Prop) (P : Option Value → Heap → Prop) (pc' : Nat) (Ls : Array Slot) (S' : List Value) : Prop :=
  ∀ T' h' v, own_S p l e R s m args below meth c n0 T' h' cl' sl' → P v h' → own_Fin p e below K (T'.setTop (mkF m pc' Ls (v.toList ++ S')))
theorem own_static (Y : own_S p l e R s m args below meth c n0 T h cl sl) (hx : p.tables.exec = Jvm.exec) {own : String} {index : Nat} {y : MethodName} {bytes : ByteArray} {maxL : Nat} {ret : Option FieldType} {rm : Room} {W cl' sl' : Nat} {as' : List Value} {P : Option Value → Heap → Prop} {S' : List Value} (hZ : Z.Warmed39 s.vm) (hown : s.vm.findClass own = some m.cls) (w1 : (Jvm.Cond.methodLink own index y).before a0 Z = true) (w2 : (Jvm.Cond.static y).before a0 Z = true) (w3 : (Jvm.Cond.initialized y.cls).before a0 Z = true) (w4 : (Jvm.Cond.code y bytes maxL ret).before a0 Z = true) (hy : y.cls ≠ "java/lang/invoke/MethodHandle" ∧ y.cls ≠ "java/lang/invoke/VarHandle")
    (hM : MetFree l y (head1 [Jvm.Cond.code y bytes maxL ret] rm) (fun a U => a = as'.toArray ∧ Z.Warmed39 U.vm ∧ U.heap = h) (fun _ _ _ _ _ => True) (fun _ U o U' => ∃ v L, o = .returned v ∧ own_QQ n0 P v U'.heap L ∧ FrameEnd U o U' L rm.cells rm.slots))
    (hd : decode c.code pc = .ok (.invokestatic index, 3)) (hpc : pc + 3 = pc') (hsize : Ls.size = c.maxLocals) (hS : S = as'.reverse ++ S') (hlen : ∀ sig, parseMethodDescriptor y.desc = some sig → as'.length = sig.parameters.length) (hW : (S'.map fun v => v.category).sum = W)
    (hfr : rm.frames + 1 ≤ R.frames) (hlo : W + (maxL + 11) + rm.locals ≤ R.locals) (hcl : cl + rm.cells = cl') (hsl : sl + rm.slots = sl') (hc : cl' ≤ R.cells) (hl : sl' ≤ R.slots) (hsz : ∀ v h', P v h' → Array.size h ≤ Array.size h')
    (k : own_Back p l e R s m args below meth c n0 cl' sl' K P pc' Ls S') : own_Fin p e below K (T.setTop (mkF m pc Ls S)) := by
  obtain ⟨locs, X, N, e0, hn0⟩ := Y
  subst hpc hcl hsl
  obtain ⟨v, _, ⟨T', L', k', n'⟩, -, X', ⟨Lc, ⟨Nq, hP⟩, hl1, hy1, hz1⟩, st⟩ := Jvm.LawKit.callS X hx (y := y) hown (mvT hZ w1) (mvT hZ w2) (mvT hZ w3) (mvT hZ w4) hy (backOf (W := W) hM hZ w4 w3 hfr hlo) (g := mkF m pc Ls S) rfl hsize (argsL := as') (rest := S') hlen hS (by show 2 * 0 + _ ≤ _; omega) hd (fun _ _ => ⟨rfl, e0, hc, hl⟩)
  dsimp only [Pt.U, Pt.locs, Pt.cells, Pt.slots] at X' hl1 hy1 hz1 st hP
  subst hl1 hy1 hz1
  exact own_st st (k T' T'.heap v ⟨_, X', Fr.app N Nq, rfl, Nat.le_trans hn0 (hsz _ _ hP)⟩ hP)
theorem own_special (Y : own_S p l e R s m args below meth c n0 T h cl sl) (hx : p.tables.exec = Jvm.exec) {own : String} {index : Nat} {y : MethodName} {bytes : ByteArray} {maxL : Nat} {rm : Room} {W cl' sl' : Nat} {a : Addr} {as' : List Value} {P : Option Value → Heap → Prop} {S' : List Value} (hy1 : y.name = "<init>") (hZ : Z.Warmed39 s.vm) (hown : s.vm.findClass own = some m.cls) (w1 : (Jvm.Cond.methodLink own index y).before a0 Z = true) (w2 : (Jvm.Cond.instanceMethod y).before a0 Z = true) (w3 : (Jvm.Cond.initialized y.cls).before a0 Z = true) (w4 : (Jvm.Cond.code y bytes maxL none).before a0 Z = true) (hy : y.cls ≠ "java/lang/invoke/MethodHandle" ∧ y.cls ≠ "java/lang/invoke/VarHandle")
    (hM : MetFree l y (head1 [Jvm.Cond.code y bytes maxL none] rm) (fun b U => b = (.ref a :: as').toArray ∧ Z.Warmed39 U.vm ∧ U.heap = h) (fun _ _ _ _ _ => True) (fun _ U o U' => ∃ v L, o = .returned v ∧ own_QQ n0 P v U'.heap L ∧ FrameEnd U o U' L rm.cells rm.slots))
    (hd : decode c.code pc = .ok (.invokespecial index, 3)) (hpc : pc + 3 = pc') (hsize : Ls.size = c.maxLocals) (hS : S = as'.reverse ++ .ref a :: S') (hlen : ∀ sig, parseMethodDescriptor y.desc = some sig → as'.length = sig.parameters.length) (hW : (S'.map fun v => v.category).sum = W)
    (hfr : rm.frames + 1 ≤ R.frames) (hlo : W + (maxL + 11) + rm.locals ≤ R.locals) (hcl : cl + rm.cells = cl') (hsl : sl + rm.slots = sl') (hc : cl' ≤ R.cells) (hl : sl' ≤ R.slots) (hsz : ∀ v h', P v h' → Array.size h ≤ Array.size h')
    (k : own_Back p l e R s m args below meth c n0 cl' sl' K P pc' Ls S') : own_Fin p e below K (T.setTop (mkF m pc Ls S)) := by
  obtain ⟨locs, X, N, e0, hn0⟩ := Y
  subst hpc hcl hsl
  obtain ⟨v, _, ⟨T', L', k', n'⟩, -, X', ⟨Lc, ⟨Nq, hP⟩, hl1, hy1, hz1⟩, st⟩ := X.specialBack hx (y := y) hy1 hown (mvT hZ w1) (mvT hZ w2) (mvT hZ w4) hy (backOf (W := W) hM hZ w4 w3 hfr hlo) (g := mkF m pc Ls S) rfl hsize (Steps.refl _) (a := a) (argsL := as') (rest := S') hlen hS (by show 2 * 0 + _ ≤ _; omega) hd (fun _ _ => ⟨rfl, e0, hc, hl⟩)
  dsimp only [Pt.U, Pt.locs, Pt.cells, Pt.slots] at X' hl1 hy1 hz1 st hP
  subst hl1 hy1 hz1
  exact own_tr st (k T' T'.heap v ⟨_, X', Fr.app N Nq, rfl, Nat.le_trans hn0 (hsz _ _ hP)⟩ hP)
theorem own_private (Y : own_S p l e R s m args below meth c n0 T h cl sl) (hx : p.tables.exec = Jvm.exec) {own C : String} {index : Nat} {y : MethodName} {bytes : ByteArray} {maxL : Nat} {ret : Option FieldType} {rm : Room} {W cl' sl' : Nat} {a : Addr} {as' : List Value} {P : Option Value → Heap → Prop} {S' : List Value} (hZ : Z.Warmed39 s.vm) (hown : s.vm.findClass own = some m.cls) (w1 : (Jvm.Cond.methodLink own index y).before a0 Z = true) (w2 : (Jvm.Cond.instanceMethod y).before a0 Z = true) (w5 : (Jvm.Cond.selects y.cls y y).before args s = true) (w6 : (Jvm.Cond.privateMethod y).before a0 Z = true) (w3 : (Jvm.Cond.initialized y.cls).before a0 Z = true) (w4 : (Jvm.Cond.code y bytes maxL ret).before a0 Z = true) (hy : y.cls ≠ "java/lang/invoke/MethodHandle" ∧ y.cls ≠ "java/lang/invoke/VarHandle") (E : Exa Z h a C)
    (hM : MetFree l y (head1 [Jvm.Cond.code y bytes maxL ret] rm) (fun b U => b = (.ref a :: as').toArray ∧ Z.Warmed39 U.vm ∧ U.heap = h) (fun _ _ _ _ _ => True) (fun _ U o U' => ∃ v L, o = .returned v ∧ own_QQ n0 P v U'.heap L ∧ FrameEnd U o U' L rm.cells rm.slots))
    (hd : decode c.code pc = .ok (.invokevirtual index, 3)) (hpc : pc + 3 = pc') (hsize : Ls.size = c.maxLocals) (hS : S = as'.reverse ++ .ref a :: S') (hlen : ∀ sig, parseMethodDescriptor y.desc = some sig → as'.length = sig.parameters.length) (hW : (S'.map fun v => v.category).sum = W)
    (hfr : rm.frames + 1 ≤ R.frames) (hlo : W + (maxL + 11) + rm.locals ≤ R.locals) (hcl : cl + rm.cells = cl') (hsl : sl + rm.slots = sl') (hc : cl' ≤ R.cells) (hl : sl' ≤ R.slots) (hsz : ∀ v h', P v h' → Array.size h ≤ Array.size h')
    (k : own_Back p l e R s m args below meth c n0 cl' sl' K P pc' Ls S') : own_Fin p e below K (T.setTop (mkF m pc Ls S)) := by
  obtain ⟨locs, X, N, e0, hn0⟩ := Y
  subst hpc hcl hsl
  obtain ⟨cq, q1, q2⟩ := E.cell
  obtain ⟨v, _, ⟨T', L', k', n'⟩, -, X', ⟨Lc, ⟨Nq, hP⟩, hl1, hy1, hz1⟩, st⟩ := X.privateBack hx (y := y) hown (mvT hZ w1) (mvT hZ w2) w5 (Cond.privateMethod_at (mvP hZ w6 (args := #[]))) (mvT hZ w4) hy (backOf (W := W) hM hZ w4 w3 hfr hlo) (g := mkF m pc Ls S) rfl hsize (Steps.refl _) (a := a) (by rw [e0]; exact q1) q2 (argsL := as') (rest := S') hlen hS (by show 2 * 0 + _ ≤ _; omega) hd (fun _ _ => ⟨rfl, e0, hc, hl⟩)
  dsimp only [Pt.U, Pt.locs, Pt.cells, Pt.slots] at X' hl1 hy1 hz1 st hP
  subst hl1 hy1 hz1
  exact own_tr st (k T' T'.heap v ⟨_, X', Fr.app N Nq, rfl, Nat.le_trans hn0 (hsz _ _ hP)⟩ hP)
theorem own_virtual (Y : own_S p l e R s m args below meth c n0 T h cl sl) (hx : p.tables.exec = Jvm.exec) {own C : String} {index : Nat} {y z : MethodName} {bytes : ByteArray} {maxL : Nat} {ret : Option FieldType} {rm : Room} {W cl' sl' : Nat} {a : Addr} {as' : List Value} {P : Option Value → Heap → Prop} {S' : List Value} (hZ : Z.Warmed39 s.vm) (hown : s.vm.findClass own = some m.cls) (w1 : (Jvm.Cond.methodLink own index y).before a0 Z = true) (w2 : (Jvm.Cond.declares y).before a0 Z = true) (nf : NotFace s y) (w5 : (Jvm.Cond.selects C y z).before a0 Z = true) (w6 : (Jvm.Cond.instanceMethod z).before a0 Z = true) (w3 : (Jvm.Cond.initialized z.cls).before a0 Z = true) (w4 : (Jvm.Cond.code z bytes maxL ret).before a0 Z = true) (hy : y.cls ≠ "java/lang/invoke/MethodHandle" ∧ y.cls ≠ "java/lang/invoke/VarHandle") (E : Exa Z h a C)
    (hM : MetFree l z (head1 [Jvm.Cond.code z bytes maxL ret] rm) (fun b U => b = (.ref a :: as').toArray ∧ Z.Warmed39 U.vm ∧ U.heap = h) (fun _ _ _ _ _ => True) (fun _ U o U' => ∃ v L, o = .returned v ∧ own_QQ n0 P v U'.heap L ∧ FrameEnd U o U' L rm.cells rm.slots))
    (hd : decode c.code pc = .ok (.invokevirtual index, 3)) (hpc : pc + 3 = pc') (hsize : Ls.size = c.maxLocals) (hS : S = as'.reverse ++ .ref a :: S') (hlen : ∀ sig, parseMethodDescriptor y.desc = some sig → as'.length = sig.parameters.length) (hW : (S'.map fun v => v.category).sum = W)
    (hfr : rm.frames + 1 ≤ R.frames) (hlo : W + (maxL + 11) + rm.locals ≤ R.locals) (hcl : cl + rm.cells = cl') (hsl : sl + rm.slots = sl') (hc : cl' ≤ R.cells) (hl : sl' ≤ R.slots) (hsz : ∀ v h', P v h' → Array.size h ≤ Array.size h')
    (k : own_Back p l e R s m args below meth c n0 cl' sl' K P pc' Ls S') : own_Fin p e below K (T.setTop (mkF m pc Ls S)) := by
  obtain ⟨locs, X, N, e0, hn0⟩ := Y
  subst hpc hcl hsl
  obtain ⟨cq, kq, qa, qb, qc⟩ := isOf hZ e0 E
  obtain ⟨v, _, ⟨T', L', k', n'⟩, -, X', ⟨Lc, ⟨Nq, hP⟩, hl1, hy1, hz1⟩, st⟩ := X.virtualBack hx (y := y) (z := z) hown (mvT hZ w1) (mvT hZ w2) nf (mvT hZ w5) (mvT hZ w6) hy (backOf (W := W) hM hZ w4 w3 hfr hlo) qa qc (g := mkF m pc Ls S) rfl hsize (Steps.refl _) (argsL := as') (rest := S') hlen hS (by show 2 * 0 + _ ≤ _; omega) hd (fun _ _ => ⟨rfl, e0, hc, hl⟩)
  dsimp only [Pt.U, Pt.locs, Pt.cells, Pt.slots] at X' hl1 hy1 hz1 st hP
  subst hl1 hy1 hz1
  exact own_tr st (k T' T'.heap v ⟨_, X', Fr.app N Nq, rfl, Nat.le_trans hn0 (hsz _ _ hP)⟩ hP)
theorem own_virtualUp (Y : own_S p l e R s m args below meth c n0 T h cl sl) (hx : p.tables.exec = Jvm.exec) {own C owner : String} {index : Nat} {y z : MethodName} {bytes : ByteArray} {maxL : Nat} {ret : Option FieldType} {rm : Room} {W cl' sl' : Nat} {a : Addr} {as' : List Value} {P : Option Value → Heap → Prop} {S' : List Value} (hZ : Z.Warmed39 s.vm) (hown : s.vm.findClass own = some m.cls) (w1 : (Jvm.Cond.methodLink own index y).before a0 Z = true) (w7 : (Jvm.Cond.sameMethod y.cls owner y.name y.desc).before a0 Z = true) (w2 : (Jvm.Cond.declares ⟨owner, y.name, y.desc⟩).before a0 Z = true) (w5 : (Jvm.Cond.selects C y z).before a0 Z = true) (w6 : (Jvm.Cond.instanceMethod z).before a0 Z = true) (w3 : (Jvm.Cond.initialized z.cls).before a0 Z = true) (w4 : (Jvm.Cond.code z bytes maxL ret).before a0 Z = true) (hy : owner ≠ "java/lang/invoke/MethodHandle" ∧ owner ≠ "java/lang/invoke/VarHandle") (E : Exa Z h a C)
    (hM : MetFree l z (head1 [Jvm.Cond.code z bytes maxL ret] rm) (fun b U => b = (.ref a :: as').toArray ∧ Z.Warmed39 U.vm ∧ U.heap = h) (fun _ _ _ _ _ => True) (fun _ U o U' => ∃ v L, o = .returned v ∧ own_QQ n0 P v U'.heap L ∧ FrameEnd U o U' L rm.cells rm.slots))
    (hd : decode c.code pc = .ok (.invokevirtual index, 3)) (hpc : pc + 3 = pc') (hsize : Ls.size = c.maxLocals) (hS : S = as'.reverse ++ .ref a :: S') (hlen : ∀ sig, parseMethodDescriptor y.desc = some sig → as'.length = sig.parameters.length) (hW : (S'.map fun v => v.category).sum = W)
    (hfr : rm.frames + 1 ≤ R.frames) (hlo : W + (maxL + 11) + rm.locals ≤ R.locals) (hcl : cl + rm.cells = cl') (hsl : sl + rm.slots = sl') (hc : cl' ≤ R.cells) (hl : sl' ≤ R.slots) (hsz : ∀ v h', P v h' → Array.size h ≤ Array.size h')
    (k : own_Back p l e R s m args below meth c n0 cl' sl' K P pc' Ls S') : own_Fin p e below K (T.setTop (mkF m pc Ls S)) := by
  obtain ⟨locs, X, N, e0, hn0⟩ := Y
  subst hpc hcl hsl
  obtain ⟨cq, kq, qa, qb, qc⟩ := isOf hZ e0 E
  obtain ⟨v, _, ⟨T', L', k', n'⟩, -, X', ⟨Lc, ⟨Nq, hP⟩, hl1, hy1, hz1⟩, st⟩ := X.virtualBackUp hx (owner := owner) (x := y) (y := z) hown (mvT hZ w1) (mvT hZ w7) (mvT hZ w2) hy (mvT hZ w5) (mvT hZ w6) (backOf (W := W) hM hZ w4 w3 hfr hlo) qa qc (g := mkF m pc Ls S) rfl hsize (Steps.refl _) (argsL := as') (rest := S') hlen hS (by show 2 * 0 + _ ≤ _; omega) hd (fun _ _ => ⟨rfl, e0, hc, hl⟩)
  dsimp only [Pt.U, Pt.locs, Pt.cells, Pt.slots] at X' hl1 hy1 hz1 st hP
  subst hl1 hy1 hz1
  exact own_tr st (k T' T'.heap v ⟨_, X', Fr.app N Nq, rfl, Nat.le_trans hn0 (hsz _ _ hP)⟩ hP)
theorem own_iface (Y : own_S p l e R s m args below meth c n0 T h cl sl) (hx : p.tables.exec = Jvm.exec) {own C : String} {index count : Nat} {y z : MethodName} {bytes : ByteArray} {maxL : Nat} {ret : Option FieldType} {rm : Room} {W cl' sl' : Nat} {a : Addr} {as' : List Value} {P : Option Value → Heap → Prop} {S' : List Value} (hZ : Z.Warmed39 s.vm) (hown : s.vm.findClass own = some m.cls) (w1 : (Jvm.Cond.methodLink own index y).before a0 Z = true) (w2 : (Jvm.Cond.declares y).before a0 Z = true) (w7 : (Jvm.Cond.interfaceMethod y.cls y.cls y.name y.desc).before args s = true) (w5 : (Jvm.Cond.selects C y z).before a0 Z = true) (w6 : (Jvm.Cond.instanceMethod z).before a0 Z = true) (w8 : (Jvm.Cond.publicMethod z).before a0 Z = true) (w9 : (Jvm.Cond.unhidden C y.name y.desc).before a0 Z = true) (w10 : (Jvm.Cond.castable C y.cls).before a0 Z = true) (w3 : (Jvm.Cond.initialized z.cls).before a0 Z = true) (w4 : (Jvm.Cond.code z bytes maxL ret).before a0 Z = true) (hy : y.cls ≠ "java/lang/invoke/MethodHandle" ∧ y.cls ≠ "java/lang/invoke/VarHandle") (E : Exa Z h a C)
    (hM : MetFree l z (head1 [Jvm.Cond.code z bytes maxL ret] rm) (fun b U => b = (.ref a :: as').toArray ∧ Z.Warmed39 U.vm ∧ U.heap = h) (fun _ _ _ _ _ => True) (fun _ U o U' => ∃ v L, o = .returned v ∧ own_QQ n0 P v U'.heap L ∧ FrameEnd U o U' L rm.cells rm.slots))
    (hd : decode c.code pc = .ok (.invokeinterface index count, 5)) (hpc : pc + 5 = pc') (hsize : Ls.size = c.maxLocals) (hS : S = as'.reverse ++ .ref a :: S') (hlen : ∀ sig, parseMethodDescriptor y.desc = some sig → as'.length = sig.parameters.length) (hW : (S'.map fun v => v.category).sum = W)
    (hfr : rm.frames + 1 ≤ R.frames) (hlo : W + (maxL + 11) + rm.locals ≤ R.locals) (hcl : cl + rm.cells = cl') (hsl : sl + rm.slots = sl') (hc : cl' ≤ R.cells) (hl : sl' ≤ R.slots) (hsz : ∀ v h', P v h' → Array.size h ≤ Array.size h')
    (k : own_Back p l e R s m args below meth c n0 cl' sl' K P pc' Ls S') : own_Fin p e below K (T.setTop (mkF m pc Ls S)) := by
  obtain ⟨locs, X, N, e0, hn0⟩ := Y
  subst hpc hcl hsl
  obtain ⟨cq, kq, qa, qb, qc⟩ := isOf hZ e0 E
  obtain ⟨v, _, ⟨T', L', k', n'⟩, -, X', ⟨Lc, ⟨Nq, hP⟩, hl1, hy1, hz1⟩, st⟩ := X.interfaceBack hx (xi := y) (y := z) hown (mvT hZ w1) (mvT hZ w2) w7 (mvT hZ w5) (mvT hZ w6) (mvT hZ w8) (mvT hZ w9) (mvT hZ w10) hy (backOf (W := W) hM hZ w4 w3 hfr hlo) qa qb qc (g := mkF m pc Ls S) rfl hsize (Steps.refl _) (argsL := as') (rest := S') hlen hS (by show 2 * 0 + _ ≤ _; omega) hd (fun _ _ => ⟨rfl, e0, hc, hl⟩)
  dsimp only [Pt.U, Pt.locs, Pt.cells, Pt.slots] at X' hl1 hy1 hz1 st hP
  subst hl1 hy1 hz1
  exact own_tr st (k T' T'.heap v ⟨_, X', Fr.app N Nq, rfl, Nat.le_trans hn0 (hsz _ _ hP)⟩ hP)
/-! leaving -/
theorem own_leave (Y : own_S p l e R s m args below meth c n0 T h cl sl) (hx : p.tables.exec = Jvm.exec) {r : Option Value} {P : Option Value → Heap → Prop} {kc ks : Nat} (hlk : meth.locks = false) (hv : meth.sig.returnType = none → r = none) (hP : P r h) (hc : cl ≤ kc) (hs : sl ≤ ks) (k : ∀ {locs : List Loc} {fs : List Frame}, Stand p l e R s m args below meth c T locs cl sl → (∀ (f : JFrame) (acts : List Action), f.method = m → f.locked = none → f.entered = [] → (doReturn e (T.setTop f) acts r).1 = T.setFrames fs) → Steps p.tables e below (T.setTop (mkF m pc Ls S)) (T.setFrames fs)) :
    own_Fin p e below (fun o U' => ∃ v L, o = .returned v ∧ own_QQ n0 P v U'.heap L ∧ FrameEnd s o U' L kc ks) (T.setTop (mkF m pc Ls S)) := by
  obtain ⟨locs, X, N, e0, hn0⟩ := Y
  obtain ⟨fs, hr, hrun, hended, hW, hsame⟩ := X.leave (v := r) hv hlk
  exact ⟨_, _, k X hr, hrun, hended, _, _, rfl, ⟨N, e0 ▸ hP⟩, ⟨_, rfl⟩, hW, hsame.mono hc hs⟩
theorem own_ret0 (Y : own_S p l e R s m args below meth c n0 T h cl sl) (hx : p.tables.exec = Jvm.exec) {P : Option Value → Heap → Prop} {kc ks : Nat} (hlk : meth.locks = false) (hret : meth.sig.returnType = none) (hd : decode c.code pc = .ok (.return_, 1)) (hP : P none h) (hc : cl ≤ kc) (hs : sl ≤ ks) :
    own_Fin p e below (fun o U' => ∃ v L, o = .returned v ∧ own_QQ n0 P v U'.heap L ∧ FrameEnd s o U' L kc ks) (T.setTop (mkF m pc Ls [])) :=
  own_leave Y hx (r := none) hlk (fun _ => rfl) hP hc hs fun X hr => X.returnOut hx hret hd hr
theorem own_retN (Y : own_S p l e R s m args below meth c n0 T h cl sl) (hx : p.tables.exec = Jvm.exec) {P : Option Value → Heap → Prop} {kc ks : Nat} {z : Int32} {t : FieldType} (hlk : meth.locks = false) (hret : meth.sig.returnType = some t) (hz : narrow t (.int z) = .int z) (ht : t = .int ∨ t = .boolean ∨ t = .byte ∨ t = .char ∨ t = .short) (hd : decode c.code pc = .ok (.ireturn, 1)) (hP : P (some (.int z)) h) (hc : cl ≤ kc) (hs : sl ≤ ks) :
    own_Fin p e below (fun o U' => ∃ v L, o = .returned v ∧ own_QQ n0 P v U'.heap L ∧ FrameEnd s o U' L kc ks) (T.setTop (mkF m pc Ls (.int z :: S))) :=
  own_leave Y hx (r := some (.int z)) hlk (fun q => by rw [hret] at q; cases q) hP hc hs fun X hr => retOut X hx hret hz (Or.inl ⟨rfl, ht, z, rfl⟩) hd hr
theorem own_retA (Y : own_S p l e R s m args below meth c n0 T h cl sl) (hx : p.tables.exec = Jvm.exec) {P : Option Value → Heap → Prop} {kc ks : Nat} {t : FieldType} (hlk : meth.locks = false) (hret : meth.sig.returnType = some t) (hn : narrow t v = v) (ht : t.isReference = true) (hv : v.isRef = true) (hd : decode c.code pc = .ok (.areturn, 1)) (hP : P (some v) h) (hc : cl ≤ kc) (hs : sl ≤ ks) :
    own_Fin p e below (fun o U' => ∃ v L, o = .returned v ∧ own_QQ n0 P v U'.heap L ∧ FrameEnd s o U' L kc ks) (T.setTop (mkF m pc Ls (v :: S))) :=
  own_leave Y hx (r := some v) hlk (fun q => by rw [hret] at q; cases q) hP hc hs fun X hr => retOut X hx hret hn (Or.inr (Or.inr (Or.inr (Or.inr ⟨rfl, ht, hv⟩)))) hd hr
theorem own_w {Z : State} {a0 : Array Value} (hw : ∀ d ∈ tables_1, d.before a0 Z = true) (i : Nat) {d : Jvm.Cond} (q : tables_1[i]? = some d) : d.before a0 Z = true := hw d (List.mem_of_getElem? q)
/-- it returns r, the heap as it was -/
def own_Same (r : Option Value) (h0 : Heap) (v : Option Value) (h : Heap) : Prop := v = r ∧ h = h0
theorem own_Same.sz {r : Option Value} {h0 : Heap} : ∀ v h', own_Same r h0 v h' → Array.size h0 ≤ Array.size h' := fun _ _ q => by rw [q.2]; exact Nat.le_refl _
theorem own_fixS {p : Program} {l : Launch} {e : Env} {R : Room} {s : State} {m : MethodId} {args : Array Value} {below : List Frame} {meth : Method} {c : Code} {n0 cl' sl' : Nat} {K : Outcome → State → Prop} {r : Option Value} {h : Heap} {pc' : Nat} {Ls : Array Slot} {S' S2 : List Value} (q : r.toList ++ S' = S2)
    (k : ∀ T', own_S p l e R s m args below meth c n0 T' h cl' sl' → own_Fin p e below K (T'.setTop (mkF m pc' Ls S2))) : own_Back p l e R s m args below meth c n0 cl' sl' K (own_Same r h) pc' Ls S' := by
  intro T' h' v Y hP
  obtain ⟨rfl, rfl⟩ := hP
  subst q
  exact k T' Y
theorem own_fixR {p : Program} {l : Launch} {e : Env} {R : Room} {s : State} {m : MethodId} {args : Array Value} {below : List Frame} {meth : Method} {c : Code} {n0 cl' sl' : Nat} {K : Outcome → State → Prop} {r : Option Value} {P : Heap → Prop} {pc' : Nat} {Ls : Array Slot} {S' S2 : List Value} (q : r.toList ++ S' = S2)
    (k : ∀ T' h', own_S p l e R s m args below meth c n0 T' h' cl' sl' → P h' → own_Fin p e below K (T'.setTop (mkF m pc' Ls S2))) : own_Back p l e R s m args below meth c n0 cl' sl' K (own_R r P) pc' Ls S' := by
  intro T' h' v Y hP
  obtain ⟨rfl, hP⟩ := hP
  subst q
  exact k T' h' Y hP
theorem own_more {p : Program} {l : Launch} {e : Env} {R : Room} {s : State} {m : MethodId} {args : Array Value} {below : List Frame} {meth : Method} {c : Code} {n0 cl sl cl' sl' : Nat} {T : State} {h : Heap} (Y : own_S p l e R s m args below meth c n0 T h cl sl) (hc : cl ≤ cl') (hs : sl ≤ sl') : own_S p l e R s m args below meth c n0 T h cl' sl' := by
  obtain ⟨locs, X, N, e0, q⟩ := Y
  exact ⟨locs, X.more hc hs, N, e0, q⟩
end Walk
theorem own_eqI {args : Array Value} {s : State} {t : Term} {k : Int32} (h : (Jvm.Cond.eq t (.int k)).value args s none s [] = some true) : t.eval args s none [] s = some (.int k) := by
  cases ht : t.eval args s none [] s with
  | none => simp [Cond.value, ht] at h
  | some x => cases x <;> simp [Cond.value, ht, Term.eval] at h ⊢; exact h
theorem own_fld {args : Array Value} {s : State} {t : Term} {a : Addr} {C n d : String} {k : Int32} (ht : t.eval args s none [] s = some (.ref a)) (h : (Jvm.Cond.eq (.field t C n d) (.int k)).value args s none s [] = some true) : Fld s s.heap a C n d (.int k) :=
  Fld.start (by rw [← fld_at ht]; exact own_eqI h)
theorem own_fldR {args : Array Value} {s : State} {t u : Term} {a b : Addr} {C n d : String} (ht : t.eval args s none [] s = some (.ref a)) (hu : u.eval args s none [] s = some (.ref b)) (h : (Jvm.Cond.eq (.field t C n d) u).value args s none s [] = some true) : Fld s s.heap a C n d (.ref b) := by
  refine Fld.start ?_
  rw [← fld_at ht]
  cases he : (Term.field t C n d).eval args s none [] s with
  | none => simp [Cond.value, he] at h
  | some x => cases x <;> simp [Cond.value, he, hu] at h ⊢; exact h
theorem own_differ {args : Array Value} {s : State} {t u : Term} {a b : Addr} (ht : t.eval args s none [] s = some (.ref a)) (hu : u.eval args s none [] s = some (.ref b)) (h : (Jvm.Cond.not (.eq t u)).value args s none s [] = some true) : a ≠ b := by
  have h1 := not_v h
  have h2 := gotF (eq_R ht hu rfl rfl) h1
  exact fun e => h2 (congrArg Value.ref e)
theorem own_pick {r : Int32} {k : Int} (h : r.toInt = k) : r = Int32.ofInt k := by rw [← h, Int32.ofInt_toInt]

theorem own_selP {Z s : State} {a0 args : Array Value} {y : MethodName} (hZ : Z.Warmed39 s.vm) (nf : ∃ c k, Z.vm.findClass y.cls = some c ∧ Z.vm.classes[c]? = some k ∧ k.isInterface = false) (wp : (Jvm.Cond.privateMethod y).before a0 Z = true) (wi : (Jvm.Cond.instanceMethod y).before a0 Z = true)
    (hy : y.cls ≠ "java/lang/invoke/MethodHandle" ∧ y.cls ≠ "java/lang/invoke/VarHandle") : (Jvm.Cond.selects y.cls y y).before args s = true := by
  obtain ⟨c, k, h1, h2, h3⟩ := nf
  obtain ⟨k', q1, q2⟩ := hZ.alike.2.2 _ _ h2
  exact selects_self_of_private (by rw [hZ.alike.findClass]; exact h1) q1 (by rw [q2]; exact h3) (Cond.privateMethod_at (mvP hZ wp (args := #[]))) (mvT hZ wi) hy
theorem own_nfI {Z : State} {a0 : Array Value} {C : String} {n : Nat} (w : (Jvm.Cond.instantiable C n).before a0 Z = true) : ∃ c k, Z.vm.findClass C = some c ∧ Z.vm.classes[c]? = some k ∧ k.isInterface = false := by
  obtain ⟨c, k, h1, h2, -, h4, -, -⟩ := Cond.instantiable_spec w
  refine ⟨c, k, h1, h2, ?_⟩
  cases hq : k.isInterface with
  | false => rfl
  | true => simp [hq] at h4
theorem own_eqS {args : Array Value} {s : State} {C n d : String} {k : Int32} (h : (Jvm.Cond.eq (.static C n d) (.int k)).value args s none s [] = some true) (hi : (Jvm.Cond.initialized C).before args s = true) (hl : (Jvm.Cond.laysStatic C n d).before args s = true) : Sta s s.heap C n d (.int k) :=
  Sta.start (own_eqI h) (Or.inr ⟨hi, hl⟩)
section Lam
variable {p : Program} {l : Launch} {e : Env} {R : Room} {s : State} {m : MethodId} {args : Array Value} {below : List Frame} {meth : Method} {c : Code} {T : State} {locs : List Loc} {cells slots : Nat} {Z : State} {a0 : Array Value} {h : Heap}
theorem own_lam0 (X : Stand p l e R s m args below meth c T locs cells slots) (hx : p.tables.exec = Jvm.exec) (hZ : Z.Warmed39 s.vm) {x : MethodName} {pc index : Nat} {σ : Lambda.Shape} {C : String} (hnamed : s.methodNamed? x = some m)
    (w : (Jvm.Cond.lambdaSite x pc index σ).before a0 Z = true) (wo : (Jvm.Cond.instantiable "java/lang/Object" 0).before a0 Z = true) (hcap : σ.captured = [.object C]) (hlay : ((σ.file x.cls).bind (layoutFields · 0)).map (·.2.1) = some #[.object C])
    (eT : T.heap = h) {g : JFrame} (hg : g.method = m) (hpc : g.pc = pc) (hsize : g.locals.size = c.maxLocals) (hd : decode c.code g.pc = .ok (.invokedynamic index, 5)) {v : Value} (hv : v.isRef = true) {rest : List Value} (hs : g.stack = v :: rest)
    (hwords : 2 * g.monitorRoom + (g.stack.map fun v => v.category).sum + 3072 ≤ R.locals) (hc : cells + 1 ≤ R.cells) (hl : slots + 1 ≤ R.slots) :
    ∃ T' h', Stand p l e R s m args below meth c T' locs (cells + 1) (slots + 1) ∧ T'.heap = h' ∧ Ext h h' ∧ ∀ target, Steps p.tables e below (T'.setTop { g with pc := g.pc + 5, stack := .ref (Array.size h) :: rest }) target → Steps p.tables e below (T.setTop g) target := by
  obtain ⟨cK, one, hat⟩ := Cond.lambdaSite_spec w
  obtain ⟨m', kS, cfS, i0, p0, lk, hm', hkS, hcfS, hshape, -, hfind, hmade, hcan, hlk⟩ := State.lambdaAt?_spec hat
  have hmm : m' = m := by
    have q : (Z.setVm s.vm).methodNamed? x = Z.methodNamed? x := State.methodNamed?_setVm hZ.alike x
    rw [hm'] at q
    exact Option.some.inj (q.symm.trans hnamed)
  subst hmm
  obtain ⟨rfl, rfl, -⟩ : lk = .makes cK ∧ one = none ∧ σ.captured ≠ [] := by
    rcases hlk with ⟨a, cell, -, -, h, -⟩ | h
    · rw [hcap] at h
      cases h
    · exact h
  obtain ⟨kS', hkS', hnameS⟩ := className_of_methodNamed hm'
  cases hkS.symm.trans hkS'
  obtain ⟨bsm, nt, desc, site, hcp, hnt, hsite, hpar⟩ := Lambda.shapeOf?_site hshape
  obtain ⟨kK, hkK, htyK, hkindK, hhid⟩ := Lambda.made_types hmade hkS wo (by rw [hnameS]; exact hlay)
  obtain ⟨k1, hk1, he1⟩ := hZ.alike.2.2 _ _ hkS
  obtain ⟨kc, hkc, hec⟩ := hZ.alike.2.2 _ _ hkK
  have hty : kc.instanceTypes = #[.object C] := by rw [hec]; exact htyK
  have hkd : kc.kind = .ordinary := by rw [hec]; exact hkindK
  have hn : narrow (.object C) v = v := by rcases ref_cases hv with rfl | ⟨a, rfl⟩ <;> rfl
  have hf : fits (.object C) v = true := by rcases ref_cases hv with rfl | ⟨a, rfl⟩ <;> rfl
  have hz : ((kc.instanceTypes.toList.zip [v]).map fun (t, v) => narrow t v) = [v] := by
    rw [hty]
    simp [hn]
  obtain ⟨X₁, st1⟩ := X.lambdaMakes hx hg hsize hd (vals := [v]) (rest := rest) hk1 (by rw [he1, hpc]; exact hfind) (by rw [he1]; exact hcfS) hcp hnt (parseLong_of_parse hsite) (by rw [hpar, hcap]; rfl) (by rw [hs]; rfl) hkc
    (by rw [X.admits.platform]; exact hwords) hc (by rw [hz]; exact hl)
    (fun i u hu => by
      rw [hz] at hu
      match i, hu with
      | 0, hu => simp at hu; subst hu; simp [State.fitsSlot, State.slotType?, hkc, hkd, hty, hf]
      | k + 1, hu => simp at hu)
  rw [hz] at X₁ st1
  subst eT
  exact ⟨_, _, X₁, rfl, ext_of fun a q => Array.getElem?_push_lt q |>.trans (Array.getElem?_eq_getElem q).symm, st1⟩
variable {n0 cl sl cl' sl' pc pc' : Nat} {Ls : Array Slot} {S : List Value} {v : Value} {K : Outcome → State → Prop}
theorem own_lam (Y : own_S p l e R s m args below meth c n0 T h cl sl) (hx : p.tables.exec = Jvm.exec) (hZ : Z.Warmed39 s.vm) {x : MethodName} {pc0 index : Nat} {σ : Lambda.Shape} {C : String} (hnamed : s.methodNamed? x = some m)
    (w : (Jvm.Cond.lambdaSite x pc0 index σ).before a0 Z = true) (wo : (Jvm.Cond.instantiable "java/lang/Object" 0).before a0 Z = true) (hcap : σ.captured = [.object C]) (hlay : ((σ.file x.cls).bind (layoutFields · 0)).map (·.2.1) = some #[.object C]) (hp0 : pc = pc0) (hsize : Ls.size = c.maxLocals)
    (hd : decode c.code pc = .ok (.invokedynamic index, 5)) (hv : v.isRef = true) (hpc : pc + 5 = pc') (hwords : 2 * 0 + ((v :: S).map fun v => v.category).sum + 3072 ≤ R.locals) (hcl : cl + 1 = cl') (hsl : sl + 1 = sl') (hc : cl' ≤ R.cells) (hl : sl' ≤ R.slots)
    (k : ∀ T' h' b, own_S p l e R s m args below meth c n0 T' h' cl' sl' → own_Kp h h' [] → Array.size h ≤ b → own_Fin p e below K (T'.setTop (mkF m pc' Ls (.ref b :: S)))) : own_Fin p e below K (T.setTop (mkF m pc Ls (v :: S))) := by
  obtain ⟨locs, X, N, e0, hn0⟩ := Y
  subst hpc hcl hsl
  obtain ⟨T', h', X', e', E, st⟩ := own_lam0 X hx hZ hnamed w wo hcap hlay e0 (g := mkF m pc Ls (v :: S)) rfl hp0 hsize hd hv rfl hwords hc hl
  exact own_st st (k T' h' _ ⟨locs, X', N, e', Nat.le_trans hn0 E.1⟩ (own_Kp.of_ext E []) (Nat.le_refl _))
end Lam
abbrev zs0 : String := "com/example/napkintree/napkintree/balancing/MultiwayTree$Node"
abbrev zs1 : String := "Ljava/lang/Object;"
abbrev zs2 : String := "java/lang/Object"
abbrev zs3 : String := "com/example/napkintree/napkintree/balancing/NodeMark"
abbrev zs4 : String := "Lcom/example/napkintree/napkintree/balancing/NodeMark;"
abbrev zs5 : String := "java/lang/Enum"
abbrev zs6 : String := "com/example/napkintree/napkintree/balancing/MultiwayTree"
abbrev zs7 : String := "com/example/napkintree/napkintree/balancing/SearchTree"
abbrev zs8 : String := "Ljava/util/Comparator;"
abbrev zs9 : String := "com/example/napkintree/napkintree/balancing/NodeChildPinLaw"
abbrev zs10 : String := "java/util/Comparator"
abbrev zs11 : String := "lastOperation"
abbrev zs12 : String := "Lcom/example/napkintree/napkintree/balancing/OperationRecord;"
abbrev zs13 : String := "com/example/napkintree/napkintree/balancing/OperationRecord"
abbrev zs14 : String := "Lcom/example/napkintree/napkintree/balancing/KeyedNode;"
abbrev zs15 : String := "com/example/napkintree/napkintree/balancing/KeyedNode"
abbrev zs16 : String := "Lcom/example/napkintree/napkintree/balancing/MultiwayTree$Node;"
abbrev zs17 : String := "(I)Lcom/example/napkintree/napkintree/balancing/MultiwayTree$Node;"
abbrev zs18 : String := "(Ljava/lang/Object;)Ljava/lang/Object;"
abbrev zs19 : String := "(I)Ljava/lang/Object;"
abbrev zs20 : String := "(ILjava/lang/Object;Ljava/lang/Object;)V"
abbrev zs21 : String := "(ILcom/example/napkintree/napkintree/balancing/MultiwayTree$Node;)V"
abbrev zs22 : String := "(ILjava/lang/Object;Ljava/lang/Object;ILcom/example/napkintree/napkintree/balancing/MultiwayTree$Node;)V"
abbrev zs23 : String := "(Lcom/example/napkintree/napkintree/balancing/MultiwayTree$Node;Lcom/example/napkintree/napkintree/balancing/NodeMark;)V"
abbrev zs24 : String := "(Lcom/example/napkintree/napkintree/balancing/MultiwayTree$Node;I)V"
abbrev zs25 : String := "(Lcom/example/napkintree/napkintree/balancing/MultiwayTree$Node;)I"
def own_Pins (Z : State) (h0 : Heap) (w_NULL_KEY : Addr) (w_SPLIT : Addr) (w_ABSORBED : Addr) (w_NEW_ROOT : Addr) : Prop := (Sta Z h0 zs0 "NULL_KEY" zs1 (.ref w_NULL_KEY)) ∧ (Exa Z h0 w_NULL_KEY zs2) ∧ (Sta Z h0 zs3 "SPLIT" zs4 (.ref w_SPLIT)) ∧ (Exa Z h0 w_SPLIT zs3) ∧ (Sta Z h0 zs3 "ABSORBED" zs4 (.ref w_ABSORBED)) ∧ (Exa Z h0 w_ABSORBED zs3) ∧ (Sta Z h0 zs3 "NEW_ROOT" zs4 (.ref w_NEW_ROOT)) ∧ (Exa Z h0 w_NEW_ROOT zs3) ∧ (Fld Z h0 w_SPLIT zs5 "ordinal" "I" (.int 1)) ∧ (Fld Z h0 w_ABSORBED zs5 "ordinal" "I" (.int 0)) ∧ (Fld Z h0 w_NEW_ROOT zs5 "ordinal" "I" (.int 2)) ∧ (Sta Z h0 zs6 "MARK_BITS" "I" (.int 2))
theorem own_mask4 (p : Int32) : (p &&& (3 : Int32)) = (0 : Int32) ∨ (p &&& (3 : Int32)) = (1 : Int32) ∨ (p &&& (3 : Int32)) = (2 : Int32) ∨ (p &&& (3 : Int32)) = (3 : Int32) := by
  have h2 := c_mask p (3 : Int32) 2 (by decide) rfl
  generalize (p &&& (3 : Int32)) = r at h2 ⊢
  have h3 : r.toInt = p.toInt % 4 := h2
  rcases (by omega : r.toInt = 0 ∨ r.toInt = 1 ∨ r.toInt = 2 ∨ r.toInt = 3) with h | h | h | h
  · exact Or.inl (own_pick h)
  · exact Or.inr (Or.inl (own_pick h))
  · exact Or.inr (Or.inr (Or.inl (own_pick h)))
  · exact Or.inr (Or.inr (Or.inr ((own_pick h))))
theorem own_mask2 (p : Int32) : (p &&& (1 : Int32)) = (0 : Int32) ∨ (p &&& (1 : Int32)) = (1 : Int32) := by
  have h2 := c_mask p (1 : Int32) 1 (by decide) rfl
  generalize (p &&& (1 : Int32)) = r at h2 ⊢
  have h3 : r.toInt = p.toInt % 2 := h2
  rcases (by omega : r.toInt = 0 ∨ r.toInt = 1) with h | h
  · exact Or.inl (own_pick h)
  · exact Or.inr ((own_pick h))
theorem own_mod3 (p : Int32) : (p &&& (2147483647 : Int32)) % (3 : Int32) = (0 : Int32) ∨ (p &&& (2147483647 : Int32)) % (3 : Int32) = (1 : Int32) ∨ (p &&& (2147483647 : Int32)) % (3 : Int32) = (2 : Int32) := by
  have h1 := c_and p (2147483647 : Int32) (by decide)
  have h2 := (c_irem (p &&& (2147483647 : Int32)) (3 : Int32) 3 rfl).1 h1.1
  generalize (p &&& (2147483647 : Int32)) % (3 : Int32) = r at h2 ⊢
  rcases (by omega : r.toInt = 0 ∨ r.toInt = 1 ∨ r.toInt = 2) with h | h | h
  · exact Or.inl (own_pick h)
  · exact Or.inr (Or.inl (own_pick h))
  · exact Or.inr (Or.inr ((own_pick h)))
theorem d1_0 : decode prog_25_method_1_code 0 = .ok (.aload_n 0, 1) := by decide +kernel
theorem d1_1 : decode prog_25_method_1_code 1 = .ok (.invokespecial 1, 3) := by decide +kernel
theorem d1_4 : decode prog_25_method_1_code 4 = .ok (.return_, 1) := by decide +kernel
theorem ef_1_R (m : MethodId) (x0 : Addr) : entryFrame m #[(.ref x0)] 1 = mkF m 0 #[.val (.ref x0)] [] := by first | (simp [entryFrame, mkF, argsToLocals, Value.category]; done) | rfl
theorem pn_com_example_napkintree_napkintree_balancing_MultiwayTree_Node : plainName "com/example/napkintree/napkintree/balancing/MultiwayTree$Node" = true := by first | (simp [plainName, overriddenIn]; done) | decide +kernel
set_option maxRecDepth 65536 in
set_option maxHeartbeats 40000000 in
theorem rm1_1 (l : Launch) (Z : State) (a0 : Array Value) (hw : ∀ d ∈ tables_1, d.before a0 Z = true) (ws : List Jvm.Cond) (a1 : Addr) (h0 : Heap) (n0 : Nat) (Z0 : n0 ≤ Array.size h0) :
    MetFree l (⟨zs0, "<init>", "()V"⟩ : MethodName) (head1 (Jvm.Cond.code (⟨zs0, "<init>", "()V"⟩ : MethodName) prog_25_method_1_code 1 none :: ws) ({ frames := 1, cells := 0, slots := 0, locals := 12 } : Room)) (fun a U => a = #[(.ref a1)] ∧ Z.Warmed39 U.vm ∧ U.heap = h0) (fun _ _ _ _ _ => True) (fun _ U o U' => ∃ v L, o = .returned v ∧ own_QQ n0 (own_Same none h0) v U'.heap L ∧ FrameEnd U o U' L ({ frames := 1, cells := 0, slots := 0, locals := 12 } : Room).cells ({ frames := 1, cells := 0, slots := 0, locals := 12 } : Room).slots) := by
  refine MetFree.of_bodySF (plainFor_of_name pn_com_example_napkintree_napkintree_balancing_MultiwayTree_Node) hisR ?_
  intro p e s m args below meth c s₁ Bd hml0 hP hK
  obtain ⟨rfl, hZ, hh⟩ := hP
  have hx := Bd.exec
  have hby := Bd.bytes
  have hml : c.maxLocals = 1 := hml0
  have hown : s.vm.findClass zs0 = some m.cls := findClass_of_methodNamed Bd.named
  have hnm := (name_of_methodNamed Bd.named Bd.method).1
  have hlk : meth.locks = false := BodyLoose.notSynchronized Bd
  have Y0 : own_S p l e ({ frames := 1, cells := 0, slots := 0, locals := 12 } : Room) s m #[(.ref a1)] below meth c n0 s₁ h0 0 0 := ⟨[], Stand.of_body Bd, Fr.nil n0, by rw [← hh, Bd.state]; rfl, Z0⟩
  refine (?_ : own_Fin p e below _ _)
  refine own_st (fun t k => castTop (ef_1_R m a1) k) ?_
  refine own_aloadN Y0 hx (pc' := 1) (hb hby d1_0) rfl rfl rfl ?_
  refine own_initO Y0 hx (pc' := 4) (W := 0) hZ hown (own_w hw 7 rfl) (own_w hw 8 rfl) (own_w hw 9 rfl) (hb hby d1_1) rfl (by rw [hml]; rfl) (by decide) rfl (by decide) (fun T1 Y1 => ?_)
  exact own_ret0 Y1 hx hlk Bd.returns (hb hby d1_4) ⟨rfl, rfl⟩ (by decide) (by decide)
theorem pd___V : parseMethodDescriptor "()V" = some ⟨[], none⟩ := by decide +kernel
theorem d3_0 : decode method_1_code 0 = .ok (.aload_n 0, 1) := by decide +kernel
theorem d3_1 : decode method_1_code 1 = .ok (.aconst_null, 1) := by decide +kernel
theorem d3_2 : decode method_1_code 2 = .ok (.aconst_null, 1) := by decide +kernel
theorem d3_3 : decode method_1_code 3 = .ok (.invokespecial 1, 3) := by decide +kernel
theorem d4_0 : decode prog_24_method_1_code 0 = .ok (.aload_n 0, 1) := by decide +kernel
theorem d4_1 : decode prog_24_method_1_code 1 = .ok (.aload_n 1, 1) := by decide +kernel
theorem d4_2 : decode prog_24_method_1_code 2 = .ok (.invokespecial 1, 3) := by decide +kernel
theorem d5_0 : decode prog_35_method_1_code 0 = .ok (.aload_n 0, 1) := by decide +kernel
theorem d5_1 : decode prog_35_method_1_code 1 = .ok (.invokespecial 1, 3) := by decide +kernel
theorem d5_4 : decode prog_35_method_1_code 4 = .ok (.aload_n 0, 1) := by decide +kernel
theorem d5_5 : decode prog_35_method_1_code 5 = .ok (.aload_n 1, 1) := by decide +kernel
theorem d5_6 : decode prog_35_method_1_code 6 = .ok (.putfield 7, 3) := by decide +kernel
theorem d5_9 : decode prog_35_method_1_code 9 = .ok (.return_, 1) := by decide +kernel
theorem ef_5_RN (m : MethodId) (x0 : Addr) : entryFrame m #[(.ref x0), .null] 2 = mkF m 0 #[.val (.ref x0), .val .null] [] := by first | (simp [entryFrame, mkF, argsToLocals, Value.category]; done) | rfl
theorem pn_com_example_napkintree_napkintree_balancing_SearchTree : plainName "com/example/napkintree/napkintree/balancing/SearchTree" = true := by first | (simp [plainName, overriddenIn]; done) | decide +kernel
def P5_2 (Z : State) (a1 : Addr) (h0 : Heap) (h : Heap) : Prop := own_Kp h0 h [(a1, Jvm.RoadKit.slotOf Z zs7 "comparator" zs8)] ∧ Fld Z h a1 zs7 "comparator" zs8 .null
theorem P5_2_sz {Z : State} {a1 : Addr} {h0 : Heap} : ∀ v h', (own_R none (P5_2 Z a1 h0)) v h' → Array.size h0 ≤ Array.size h' := by
  intro v h' q
  obtain ⟨-, K, -⟩ := q
  exact K.1
set_option maxRecDepth 65536 in
set_option maxHeartbeats 40000000 in
theorem rm5_2 (l : Launch) (Z : State) (a0 : Array Value) (hw : ∀ d ∈ tables_1, d.before a0 Z = true) (ws : List Jvm.Cond) (a1 : Addr) (h0 : Heap) (n0 : Nat) (Z0 : n0 ≤ Array.size h0) (P0 : Fld Z h0 a1 zs7 "comparator" zs8 .null) (P1 : Exa Z h0 a1 zs9) (P2 : n0 ≤ a1) :
    MetFree l (⟨zs7, "<init>", "(Ljava/util/Comparator;)V"⟩ : MethodName) (head1 (Jvm.Cond.code (⟨zs7, "<init>", "(Ljava/util/Comparator;)V"⟩ : MethodName) prog_35_method_1_code 2 none :: ws) ({ frames := 1, cells := 0, slots := 0, locals := 12 } : Room)) (fun a U => a = #[(.ref a1), .null] ∧ Z.Warmed39 U.vm ∧ U.heap = h0) (fun _ _ _ _ _ => True) (fun _ U o U' => ∃ v L, o = .returned v ∧ own_QQ n0 (own_R none (P5_2 Z a1 h0)) v U'.heap L ∧ FrameEnd U o U' L ({ frames := 1, cells := 0, slots := 0, locals := 12 } : Room).cells ({ frames := 1, cells := 0, slots := 0, locals := 12 } : Room).slots) := by
  refine MetFree.of_bodySF (plainFor_of_name pn_com_example_napkintree_napkintree_balancing_SearchTree) hisR ?_
  intro p e s m args below meth c s₁ Bd hml0 hP hK
  obtain ⟨rfl, hZ, hh⟩ := hP
  have hx := Bd.exec
  have hby := Bd.bytes
  have hml : c.maxLocals = 2 := hml0
  have hown : s.vm.findClass zs7 = some m.cls := findClass_of_methodNamed Bd.named
  have hnm := (name_of_methodNamed Bd.named Bd.method).1
  have hlk : meth.locks = false := BodyLoose.notSynchronized Bd
  have Y0 : own_S p l e ({ frames := 1, cells := 0, slots := 0, locals := 12 } : Room) s m #[(.ref a1), .null] below meth c n0 s₁ h0 0 0 := ⟨[], Stand.of_body Bd, Fr.nil n0, by rw [← hh, Bd.state]; rfl, Z0⟩
  refine (?_ : own_Fin p e below _ _)
  refine own_st (fun t k => castTop (ef_5_RN m a1) k) ?_
  refine own_aloadN Y0 hx (pc' := 1) (hb hby d5_0) rfl rfl rfl ?_
  refine own_initO Y0 hx (pc' := 4) (W := 0) hZ hown (own_w hw 26 rfl) (own_w hw 8 rfl) (own_w hw 9 rfl) (hb hby d5_1) rfl (by rw [hml]; rfl) (by decide) rfl (by decide) (fun T1 Y1 => ?_)
  refine own_aloadN Y1 hx (pc' := 5) (hb hby d5_4) rfl rfl rfl ?_
  refine own_aloadN Y1 hx (pc' := 6) (hb hby d5_5) rfl rfl rfl ?_
  refine own_putF Y1 hx (pc' := 9) hZ hown (host := "") (Or.inl (own_w hw 27 rfl)) Via.refl P0 P1 (Or.inr ⟨(own_w hw 28 rfl), rfl, hnm⟩) (own_w hw 11 rfl) (ty := (.object zs10)) (by decide) rfl rfl P2 (hb hby d5_6) rfl (fun T2 h2 Y2 K2 F2 => ?_)
  have KC3 : own_Kp h0 h2 [(a1, Jvm.RoadKit.slotOf Z zs7 "comparator" zs8)] := ((own_Kp.refl h0 [(a1, Jvm.RoadKit.slotOf Z zs7 "comparator" zs8)]).trans K2 (own_allS (Or.inl (List.mem_of_getElem? (i := 0) rfl)) own_all0))
  exact own_ret0 Y2 hx hlk Bd.returns (hb hby d5_9) ⟨rfl, KC3, F2⟩ (by decide) (by decide)
theorem pd__Ljava_util_Comparator__V : parseMethodDescriptor "(Ljava/util/Comparator;)V" = some ⟨[(.object "java/util/Comparator")], none⟩ := by decide +kernel
theorem d4_5 : decode prog_24_method_1_code 5 = .ok (.aload_n 0, 1) := by decide +kernel
theorem d4_6 : decode prog_24_method_1_code 6 = .ok (.aload_n 0, 1) := by decide +kernel
theorem d4_7 : decode prog_24_method_1_code 7 = .ok (.invokedynamic 7, 5) := by decide +kernel
theorem d4_12 : decode prog_24_method_1_code 12 = .ok (.putfield 11, 3) := by decide +kernel
theorem sl_0 {Z : State} {a0 : Array Value} (hw : ∀ d ∈ tables_1, d.before a0 Z = true) : Jvm.RoadKit.slotOf Z zs6 zs11 zs12 ≠ Jvm.RoadKit.slotOf Z zs7 "comparator" zs8 := slot_ne (C := zs9) (Or.inr (own_w hw 34 rfl)) (Or.inr (own_w hw 28 rfl)) (by decide) (t := (.object zs13)) (t' := (.object zs10)) (by decide) (by decide)
theorem d4_15 : decode prog_24_method_1_code 15 = .ok (.aload_n 2, 1) := by decide +kernel
theorem d4_16 : decode prog_24_method_1_code 16 = .ok (.ifnull 12, 3) := by decide +kernel
theorem d4_28 : decode prog_24_method_1_code 28 = .ok (.return_, 1) := by decide +kernel
theorem sl_1 {Z : State} {a0 : Array Value} (hw : ∀ d ∈ tables_1, d.before a0 Z = true) : Jvm.RoadKit.slotOf Z zs7 "comparator" zs8 ≠ Jvm.RoadKit.slotOf Z zs6 zs11 zs12 := slot_ne (C := zs9) (Or.inr (own_w hw 28 rfl)) (Or.inr (own_w hw 34 rfl)) (by decide) (t := (.object zs10)) (t' := (.object zs13)) (by decide) (by decide)
theorem ef_4_RNN (m : MethodId) (x0 : Addr) : entryFrame m #[(.ref x0), .null, .null] 3 = mkF m 0 #[.val (.ref x0), .val .null, .val .null] [] := by first | (simp [entryFrame, mkF, argsToLocals, Value.category]; done) | rfl
theorem pn_com_example_napkintree_napkintree_balancing_MultiwayTree : plainName "com/example/napkintree/napkintree/balancing/MultiwayTree" = true := by first | (simp [plainName, overriddenIn]; done) | decide +kernel
def P4_3 (Z : State) (a1 : Addr) (h0 : Heap) (h : Heap) : Prop := ∃ b2 : Addr, own_Kp h0 h [(a1, Jvm.RoadKit.slotOf Z zs7 "comparator" zs8), (a1, Jvm.RoadKit.slotOf Z zs6 zs11 zs12)] ∧ Array.size h0 ≤ b2 ∧ Fld Z h a1 zs7 "comparator" zs8 .null ∧ Fld Z h a1 zs6 zs11 zs12 (.ref b2)
theorem P4_3_sz {Z : State} {a1 : Addr} {h0 : Heap} : ∀ v h', (own_R none (P4_3 Z a1 h0)) v h' → Array.size h0 ≤ Array.size h' := by
  intro v h' q
  obtain ⟨-, _, K, -⟩ := q
  exact K.1
set_option maxRecDepth 65536 in
set_option maxHeartbeats 40000000 in
theorem rm4_3 (l : Launch) (Z : State) (a0 : Array Value) (hw : ∀ d ∈ tables_1, d.before a0 Z = true) (ws : List Jvm.Cond) (a1 : Addr) (h0 : Heap) (n0 : Nat) (Z0 : n0 ≤ Array.size h0) (P0 : Fld Z h0 a1 zs7 "comparator" zs8 .null) (P1 : Exa Z h0 a1 zs9) (P2 : n0 ≤ a1) (P3 : Fld Z h0 a1 zs6 zs11 zs12 .null) :
    MetFree l (⟨zs6, "<init>", "(Ljava/util/Comparator;Lcom/example/napkintree/napkintree/balancing/NodeView;)V"⟩ : MethodName) (head1 (Jvm.Cond.code (⟨zs6, "<init>", "(Ljava/util/Comparator;Lcom/example/napkintree/napkintree/balancing/NodeView;)V"⟩ : MethodName) prog_24_method_1_code 3 none :: ws) ({ frames := 2, cells := 1, slots := 1, locals := 3074 } : Room)) (fun a U => a = #[(.ref a1), .null, .null] ∧ Z.Warmed39 U.vm ∧ U.heap = h0) (fun _ _ _ _ _ => True) (fun _ U o U' => ∃ v L, o = .returned v ∧ own_QQ n0 (own_R none (P4_3 Z a1 h0)) v U'.heap L ∧ FrameEnd U o U' L ({ frames := 2, cells := 1, slots := 1, locals := 3074 } : Room).cells ({ frames := 2, cells := 1, slots := 1, locals := 3074 } : Room).slots) := by
  refine MetFree.of_bodySF (plainFor_of_name pn_com_example_napkintree_napkintree_balancing_MultiwayTree) hisR ?_
  intro p e s m args below meth c s₁ Bd hml0 hP hK
  obtain ⟨rfl, hZ, hh⟩ := hP
  have hx := Bd.exec
  have hby := Bd.bytes
  have hml : c.maxLocals = 3 := hml0
  have hown : s.vm.findClass zs6 = some m.cls := findClass_of_methodNamed Bd.named
  have hnm := (name_of_methodNamed Bd.named Bd.method).1
  have hlk : meth.locks = false := BodyLoose.notSynchronized Bd
  have Y0 : own_S p l e ({ frames := 2, cells := 1, slots := 1, locals := 3074 } : Room) s m #[(.ref a1), .null, .null] below meth c n0 s₁ h0 0 0 := ⟨[], Stand.of_body Bd, Fr.nil n0, by rw [← hh, Bd.state]; rfl, Z0⟩
  refine (?_ : own_Fin p e below _ _)
  refine own_st (fun t k => castTop (ef_4_RNN m a1) k) ?_
  refine own_aloadN Y0 hx (pc' := 1) (hb hby d4_0) rfl rfl rfl ?_
  refine own_aloadN Y0 hx (pc' := 2) (hb hby d4_1) rfl rfl rfl ?_
  refine own_special Y0 hx (pc' := 5) (W := 0) (cl' := 0) (sl' := 0) (as' := [.null]) (S' := []) (a := a1) rfl hZ hown (own_w hw 21 rfl) (own_w hw 22 rfl) (own_w hw 24 rfl) (own_w hw 25 rfl) (by decide) (rm5_2 l Z a0 hw [] a1 h0 n0 (own_sz Y0) P0 P1 P2) (hb hby d4_2) rfl (by rw [hml]; rfl) rfl (lenOf pd__Ljava_util_Comparator__V rfl) rfl (by decide) (by decide) rfl rfl (by decide) (by decide) P5_2_sz (own_fixR (S2 := []) rfl (fun T1 h1 Y1 R1 => ?_))
  obtain ⟨K1, G1_0⟩ := R1
  refine own_aloadN Y1 hx (pc' := 6) (hb hby d4_5) rfl rfl rfl ?_
  refine own_aloadN Y1 hx (pc' := 7) (hb hby d4_6) rfl rfl rfl ?_
  have KC3 : own_Kp h0 h1 [(a1, Jvm.RoadKit.slotOf Z zs7 "comparator" zs8), (a1, Jvm.RoadKit.slotOf Z zs6 zs11 zs12)] := ((own_Kp.refl h0 [(a1, Jvm.RoadKit.slotOf Z zs7 "comparator" zs8), (a1, Jvm.RoadKit.slotOf Z zs6 zs11 zs12)]).trans K1 (own_allS (Or.inl (List.mem_of_getElem? (i := 0) rfl)) own_all0))
  refine own_lam Y1 hx (pc' := 12) (cl' := 1) (sl' := 1) hZ Bd.named (own_w hw 29 rfl) (own_w hw 32 rfl) rfl (by decide +kernel) rfl (by rw [hml]; rfl) (hb hby d4_7) rfl rfl (Nat.le_of_ble_eq_true rfl) rfl rfl (by decide) (by decide) (fun T2 h2 b2 Y2 K2 le2 => ?_)
  have sz_b2 : Array.size h0 ≤ b2 := Nat.le_trans KC3.1 le2
  have F4 := (own_F (v := .null) (own_F (v := .null) P3 K1 (own_nr (sl_0 hw) own_nin0)) K2 own_nin0)
  have F5 := (own_E (own_E P1 K1) K2)
  refine own_putF Y2 hx (pc' := 15) hZ hown (host := "") (Or.inl (own_w hw 33 rfl)) Via.refl F4 F5 (Or.inr ⟨(own_w hw 34 rfl), rfl, hnm⟩) (own_w hw 11 rfl) (ty := (.object zs13)) (by decide) rfl rfl P2 (hb hby d4_12) rfl (fun T6 h6 Y6 K6 F6 => ?_)
  refine own_aloadN Y6 hx (pc' := 16) (hb hby d4_15) rfl rfl rfl ?_
  refine own_ifnullYes Y6 hx (pc' := 28) (hb hby d4_16) (by decide) (by decide) ?_
  have KC7 : own_Kp h0 h6 [(a1, Jvm.RoadKit.slotOf Z zs7 "comparator" zs8), (a1, Jvm.RoadKit.slotOf Z zs6 zs11 zs12)] := ((KC3.trans K2 own_all0).trans K6 (own_allS (Or.inl (List.mem_of_getElem? (i := 1) rfl)) own_all0))
  have F8 := (own_F (v := .null) (own_F (v := .null) G1_0 K2 own_nin0) K6 (own_nr (sl_1 hw) own_nin0))
  exact own_ret0 Y6 hx hlk Bd.returns (hb hby d4_28) ⟨rfl, b2, KC7, sz_b2, F8, F6⟩ (by decide) (by decide)
theorem pd__Ljava_util_Comparator_Lcom_example_napkintree_napkintree_balancing_NodeView__V : parseMethodDescriptor "(Ljava/util/Comparator;Lcom/example/napkintree/napkintree/balancing/NodeView;)V" = some ⟨[(.object "java/util/Comparator"), (.object "com/example/napkintree/napkintree/balancing/NodeView")], none⟩ := by decide +kernel
theorem d3_6 : decode method_1_code 6 = .ok (.return_, 1) := by decide +kernel
theorem ef_3_R (m : MethodId) (x0 : Addr) : entryFrame m #[(.ref x0)] 1 = mkF m 0 #[.val (.ref x0)] [] := by first | (simp [entryFrame, mkF, argsToLocals, Value.category]; done) | rfl
theorem pn_com_example_napkintree_napkintree_balancing_NodeChildPinLaw : plainName "com/example/napkintree/napkintree/balancing/NodeChildPinLaw" = true := by first | (simp [plainName, overriddenIn]; done) | decide +kernel
def P3_4 (Z : State) (a1 : Addr) (h0 : Heap) (h : Heap) : Prop := ∃ b1_0 : Addr, own_Kp h0 h [(a1, Jvm.RoadKit.slotOf Z zs7 "comparator" zs8), (a1, Jvm.RoadKit.slotOf Z zs6 zs11 zs12)] ∧ Array.size h0 ≤ b1_0 ∧ Fld Z h a1 zs7 "comparator" zs8 .null ∧ Fld Z h a1 zs6 zs11 zs12 (.ref b1_0)
theorem P3_4_sz {Z : State} {a1 : Addr} {h0 : Heap} : ∀ v h', (own_R none (P3_4 Z a1 h0)) v h' → Array.size h0 ≤ Array.size h' := by
  intro v h' q
  obtain ⟨-, _, K, -⟩ := q
  exact K.1
set_option maxRecDepth 65536 in
set_option maxHeartbeats 40000000 in
theorem rm3_4 (l : Launch) (Z : State) (a0 : Array Value) (hw : ∀ d ∈ tables_1, d.before a0 Z = true) (ws : List Jvm.Cond) (a1 : Addr) (h0 : Heap) (n0 : Nat) (Z0 : n0 ≤ Array.size h0) (P0 : Fld Z h0 a1 zs7 "comparator" zs8 .null) (P1 : Exa Z h0 a1 zs9) (P2 : n0 ≤ a1) (P3 : Fld Z h0 a1 zs6 zs11 zs12 .null) :
    MetFree l (⟨zs9, "<init>", "()V"⟩ : MethodName) (head1 (Jvm.Cond.code (⟨zs9, "<init>", "()V"⟩ : MethodName) method_1_code 1 none :: ws) ({ frames := 3, cells := 1, slots := 1, locals := 3088 } : Room)) (fun a U => a = #[(.ref a1)] ∧ Z.Warmed39 U.vm ∧ U.heap = h0) (fun _ _ _ _ _ => True) (fun _ U o U' => ∃ v L, o = .returned v ∧ own_QQ n0 (own_R none (P3_4 Z a1 h0)) v U'.heap L ∧ FrameEnd U o U' L ({ frames := 3, cells := 1, slots := 1, locals := 3088 } : Room).cells ({ frames := 3, cells := 1, slots := 1, locals := 3088 } : Room).slots) := by
  refine MetFree.of_bodySF (plainFor_of_name pn_com_example_napkintree_napkintree_balancing_NodeChildPinLaw) hisR ?_
  intro p e s m args below meth c s₁ Bd hml0 hP hK
  obtain ⟨rfl, hZ, hh⟩ := hP
  have hx := Bd.exec
  have hby := Bd.bytes
  have hml : c.maxLocals = 1 := hml0
  have hown : s.vm.findClass zs9 = some m.cls := findClass_of_methodNamed Bd.named
  have hnm := (name_of_methodNamed Bd.named Bd.method).1
  have hlk : meth.locks = false := BodyLoose.notSynchronized Bd
  have Y0 : own_S p l e ({ frames := 3, cells := 1, slots := 1, locals := 3088 } : Room) s m #[(.ref a1)] below meth c n0 s₁ h0 0 0 := ⟨[], Stand.of_body Bd, Fr.nil n0, by rw [← hh, Bd.state]; rfl, Z0⟩
  refine (?_ : own_Fin p e below _ _)
  refine own_st (fun t k => castTop (ef_3_R m a1) k) ?_
  refine own_aloadN Y0 hx (pc' := 1) (hb hby d3_0) rfl rfl rfl ?_
  refine own_aconstNull Y0 hx (pc' := 2) (hb hby d3_1) rfl ?_
  refine own_aconstNull Y0 hx (pc' := 3) (hb hby d3_2) rfl ?_
  refine own_special Y0 hx (pc' := 6) (W := 0) (cl' := 1) (sl' := 1) (as' := [.null, .null]) (S' := []) (a := a1) rfl hZ hown (own_w hw 16 rfl) (own_w hw 17 rfl) (own_w hw 19 rfl) (own_w hw 20 rfl) (by decide) (rm4_3 l Z a0 hw [] a1 h0 n0 (own_sz Y0) P0 P1 P2 P3) (hb hby d3_3) rfl (by rw [hml]; rfl) rfl (lenOf pd__Ljava_util_Comparator_Lcom_example_napkintree_napkintree_balancing_NodeView__V rfl) rfl (by decide) (by decide) rfl rfl (by decide) (by decide) P4_3_sz (own_fixR (S2 := []) rfl (fun T1 h1 Y1 R1 => ?_))
  obtain ⟨b1_0, K1, le_b1_0, G1_0, G1_1⟩ := R1
  have KC2 : own_Kp h0 h1 [(a1, Jvm.RoadKit.slotOf Z zs7 "comparator" zs8), (a1, Jvm.RoadKit.slotOf Z zs6 zs11 zs12)] := ((own_Kp.refl h0 [(a1, Jvm.RoadKit.slotOf Z zs7 "comparator" zs8), (a1, Jvm.RoadKit.slotOf Z zs6 zs11 zs12)]).trans K1 (own_allS (Or.inl (List.mem_of_getElem? (i := 0) rfl)) (own_allS (Or.inl (List.mem_of_getElem? (i := 1) rfl)) own_all0)))
  exact own_ret0 Y1 hx hlk Bd.returns (hb hby d3_6) ⟨rfl, b1_0, KC2, le_b1_0, G1_0, G1_1⟩ (by decide) (by decide)
theorem sl_2 {Z : State} {a0 : Array Value} (hw : ∀ d ∈ tables_1, d.before a0 Z = true) : Jvm.RoadKit.slotOf Z zs7 "root" zs14 ≠ Jvm.RoadKit.slotOf Z zs7 "comparator" zs8 := slot_ne (C := zs9) (Or.inl (own_w hw 37 rfl)) (Or.inr (own_w hw 28 rfl)) (by decide) (t := (.object zs15)) (t' := (.object zs10)) (by decide) (by decide)
theorem sl_3 {Z : State} {a0 : Array Value} (hw : ∀ d ∈ tables_1, d.before a0 Z = true) : Jvm.RoadKit.slotOf Z zs7 "root" zs14 ≠ Jvm.RoadKit.slotOf Z zs6 zs11 zs12 := slot_ne (C := zs9) (Or.inl (own_w hw 37 rfl)) (Or.inr (own_w hw 34 rfl)) (by decide) (t := (.object zs15)) (t' := (.object zs13)) (by decide) (by decide)
theorem d6_0 : decode prog_24_method_5_code 0 = .ok (.new 25, 3) := by decide +kernel
theorem d6_3 : decode prog_24_method_5_code 3 = .ok (.dup, 1) := by decide +kernel
theorem d6_4 : decode prog_24_method_5_code 4 = .ok (.invokespecial 27, 3) := by decide +kernel
theorem d6_7 : decode prog_24_method_5_code 7 = .ok (.astore_n 1, 1) := by decide +kernel
theorem d6_8 : decode prog_24_method_5_code 8 = .ok (.aload_n 1, 1) := by decide +kernel
theorem d6_9 : decode prog_24_method_5_code 9 = .ok (.aload_n 0, 1) := by decide +kernel
theorem d6_10 : decode prog_24_method_5_code 10 = .ok (.getfield 21, 3) := by decide +kernel
theorem d6_13 : decode prog_24_method_5_code 13 = .ok (.checkcast 25, 3) := by decide +kernel
theorem d6_16 : decode prog_24_method_5_code 16 = .ok (.putfield 73, 3) := by decide +kernel
theorem d6_19 : decode prog_24_method_5_code 19 = .ok (.aload_n 0, 1) := by decide +kernel
theorem d6_20 : decode prog_24_method_5_code 20 = .ok (.aload_n 1, 1) := by decide +kernel
theorem d6_21 : decode prog_24_method_5_code 21 = .ok (.iconst 0, 1) := by decide +kernel
theorem d6_22 : decode prog_24_method_5_code 22 = .ok (.invokevirtual 77, 3) := by decide +kernel
theorem d7_0 : decode prog_24_method_6_code 0 = .ok (.aload_n 1, 1) := by decide +kernel
theorem d7_1 : decode prog_24_method_6_code 1 = .ok (.iload_n 2, 1) := by decide +kernel
theorem d7_2 : decode prog_24_method_6_code 2 = .ok (.invokevirtual 84, 3) := by decide +kernel
theorem d8_0 : decode prog_25_method_22_code 0 = .ok (.iload_n 1, 1) := by decide +kernel
theorem d8_1 : decode prog_25_method_22_code 1 = .ok (.iconst 2, 1) := by decide +kernel
theorem d8_2 : decode prog_25_method_22_code 2 = .ok (.if_icmp .ge 21, 3) := by decide +kernel
theorem d8_5 : decode prog_25_method_22_code 5 = .ok (.iload_n 1, 1) := by decide +kernel
theorem d8_6 : decode prog_25_method_22_code 6 = .ok (.ifCond .ne 10, 3) := by decide +kernel
theorem d8_9 : decode prog_25_method_22_code 9 = .ok (.aload_n 0, 1) := by decide +kernel
theorem d8_10 : decode prog_25_method_22_code 10 = .ok (.getfield 61, 3) := by decide +kernel
theorem d8_13 : decode prog_25_method_22_code 13 = .ok (.goto 26, 3) := by decide +kernel
theorem d8_39 : decode prog_25_method_22_code 39 = .ok (.areturn, 1) := by decide +kernel
theorem ef_8_RI (m : MethodId) (x0 : Addr) (x1 : Int32) : entryFrame m #[(.ref x0), (.int x1)] 2 = mkF m 0 #[.val (.ref x0), .val (.int x1)] [] := by first | (simp [entryFrame, mkF, argsToLocals, Value.category]; done) | rfl
set_option maxRecDepth 65536 in
set_option maxHeartbeats 40000000 in
theorem rm8_5 (l : Launch) (Z : State) (a0 : Array Value) (hw : ∀ d ∈ tables_1, d.before a0 Z = true) (ws : List Jvm.Cond) (a1 : Addr) (a2 : Addr) (h0 : Heap) (n0 : Nat) (Z0 : n0 ≤ Array.size h0) (P0 : Fld Z h0 a1 zs0 "child0" zs16 (.ref a2)) :
    MetFree l (⟨zs0, "child", zs17⟩ : MethodName) (head1 (Jvm.Cond.code (⟨zs0, "child", zs17⟩ : MethodName) prog_25_method_22_code 2 (some (.object zs0)) :: ws) ({ frames := 0, cells := 0, slots := 0, locals := 0 } : Room)) (fun a U => a = #[(.ref a1), (.int (0 : Int32))] ∧ Z.Warmed39 U.vm ∧ U.heap = h0) (fun _ _ _ _ _ => True) (fun _ U o U' => ∃ v L, o = .returned v ∧ own_QQ n0 (own_Same (some (.ref a2)) h0) v U'.heap L ∧ FrameEnd U o U' L ({ frames := 0, cells := 0, slots := 0, locals := 0 } : Room).cells ({ frames := 0, cells := 0, slots := 0, locals := 0 } : Room).slots) := by
  refine MetFree.of_bodySF (plainFor_of_name pn_com_example_napkintree_napkintree_balancing_MultiwayTree_Node) hisR ?_
  intro p e s m args below meth c s₁ Bd hml0 hP hK
  obtain ⟨rfl, hZ, hh⟩ := hP
  have hx := Bd.exec
  have hby := Bd.bytes
  have hml : c.maxLocals = 2 := hml0
  have hown : s.vm.findClass zs0 = some m.cls := findClass_of_methodNamed Bd.named
  have hnm := (name_of_methodNamed Bd.named Bd.method).1
  have hlk : meth.locks = false := BodyLoose.notSynchronized Bd
  have Y0 : own_S p l e ({ frames := 0, cells := 0, slots := 0, locals := 0 } : Room) s m #[(.ref a1), (.int (0 : Int32))] below meth c n0 s₁ h0 0 0 := ⟨[], Stand.of_body Bd, Fr.nil n0, by rw [← hh, Bd.state]; rfl, Z0⟩
  refine (?_ : own_Fin p e below _ _)
  refine own_st (fun t k => castTop (ef_8_RI m a1 (0 : Int32)) k) ?_
  refine own_iloadN Y0 hx (pc' := 1) (hb hby d8_0) rfl rfl ?_
  refine own_iconst Y0 hx (pc' := 2) (x := (2 : Int32)) (hb hby d8_1) rfl (by decide) ?_
  refine own_icmpNo Y0 hx (pc' := 5) (hb hby d8_2) rfl (by decide) ?_
  refine own_iloadN Y0 hx (pc' := 6) (hb hby d8_5) rfl rfl ?_
  refine own_ifNo Y0 hx (pc' := 9) (hb hby d8_6) rfl (by decide) ?_
  refine own_aloadN Y0 hx (pc' := 10) (hb hby d8_9) rfl rfl rfl ?_
  refine own_getF Y0 hx (pc' := 13) (v := (.ref a2)) hZ hown (host := "") (Or.inl (own_w hw 61 rfl)) Via.refl P0 (hb hby d8_10) rfl (fun T1 Y1 => ?_)
  refine own_goto Y1 hx (pc' := 39) (hb hby d8_13) (by decide) (by decide) ?_
  exact own_retA Y1 hx hlk Bd.returns rfl rfl rfl (hb hby d8_39) ⟨rfl, rfl⟩ (by decide) (by decide)
theorem pd__I_Lcom_example_napkintree_napkintree_balancing_MultiwayTree_Node_ : parseMethodDescriptor "(I)Lcom/example/napkintree/napkintree/balancing/MultiwayTree$Node;" = some ⟨[.int], some (.object "com/example/napkintree/napkintree/balancing/MultiwayTree$Node")⟩ := by decide +kernel
theorem d7_5 : decode prog_24_method_6_code 5 = .ok (.astore_n 3, 1) := by decide +kernel
theorem d7_6 : decode prog_24_method_6_code 6 = .ok (.new 25, 3) := by decide +kernel
theorem d7_9 : decode prog_24_method_6_code 9 = .ok (.dup, 1) := by decide +kernel
theorem d7_10 : decode prog_24_method_6_code 10 = .ok (.invokespecial 27, 3) := by decide +kernel
theorem d7_13 : decode prog_24_method_6_code 13 = .ok (.astore 4, 2) := by decide +kernel
theorem d7_15 : decode prog_24_method_6_code 15 = .ok (.aload 4, 2) := by decide +kernel
theorem d7_17 : decode prog_24_method_6_code 17 = .ok (.aload_n 3, 1) := by decide +kernel
theorem d7_18 : decode prog_24_method_6_code 18 = .ok (.getfield 87, 3) := by decide +kernel
theorem d7_21 : decode prog_24_method_6_code 21 = .ok (.putfield 91, 3) := by decide +kernel
theorem d7_24 : decode prog_24_method_6_code 24 = .ok (.aload 4, 2) := by decide +kernel
theorem d7_26 : decode prog_24_method_6_code 26 = .ok (.aload_n 3, 1) := by decide +kernel
theorem d7_27 : decode prog_24_method_6_code 27 = .ok (.getfield 94, 3) := by decide +kernel
theorem d7_30 : decode prog_24_method_6_code 30 = .ok (.putfield 97, 3) := by decide +kernel
theorem sl_4 {Z : State} {a0 : Array Value} (hw : ∀ d ∈ tables_1, d.before a0 Z = true) : Jvm.RoadKit.slotOf Z zs0 "value0" zs1 ≠ Jvm.RoadKit.slotOf Z zs0 "key0" zs1 := slot_ne (C := zs0) (Or.inl (own_w hw 69 rfl)) (Or.inl (own_w hw 65 rfl)) (by decide) (t := (.object zs2)) (t' := (.object zs2)) (by decide) (by decide)
theorem d7_33 : decode prog_24_method_6_code 33 = .ok (.aload 4, 2) := by decide +kernel
theorem d7_35 : decode prog_24_method_6_code 35 = .ok (.aload_n 3, 1) := by decide +kernel
theorem d7_36 : decode prog_24_method_6_code 36 = .ok (.getfield 100, 3) := by decide +kernel
theorem d7_39 : decode prog_24_method_6_code 39 = .ok (.putfield 73, 3) := by decide +kernel
theorem sl_5 {Z : State} {a0 : Array Value} (hw : ∀ d ∈ tables_1, d.before a0 Z = true) : Jvm.RoadKit.slotOf Z zs0 "child0" zs16 ≠ Jvm.RoadKit.slotOf Z zs0 "key0" zs1 := slot_ne (C := zs0) (Or.inl (own_w hw 50 rfl)) (Or.inl (own_w hw 65 rfl)) (by decide) (t := (.object zs0)) (t' := (.object zs2)) (by decide) (by decide)
theorem sl_6 {Z : State} {a0 : Array Value} (hw : ∀ d ∈ tables_1, d.before a0 Z = true) : Jvm.RoadKit.slotOf Z zs0 "child0" zs16 ≠ Jvm.RoadKit.slotOf Z zs0 "value0" zs1 := slot_ne (C := zs0) (Or.inl (own_w hw 50 rfl)) (Or.inl (own_w hw 69 rfl)) (by decide) (t := (.object zs0)) (t' := (.object zs2)) (by decide) (by decide)
theorem d7_42 : decode prog_24_method_6_code 42 = .ok (.aload 4, 2) := by decide +kernel
theorem d7_44 : decode prog_24_method_6_code 44 = .ok (.aload_n 3, 1) := by decide +kernel
theorem d7_45 : decode prog_24_method_6_code 45 = .ok (.getfield 103, 3) := by decide +kernel
theorem d7_48 : decode prog_24_method_6_code 48 = .ok (.putfield 106, 3) := by decide +kernel
theorem sl_7 {Z : State} {a0 : Array Value} (hw : ∀ d ∈ tables_1, d.before a0 Z = true) : Jvm.RoadKit.slotOf Z zs0 "child1" zs16 ≠ Jvm.RoadKit.slotOf Z zs0 "key0" zs1 := slot_ne (C := zs0) (Or.inl (own_w hw 75 rfl)) (Or.inl (own_w hw 65 rfl)) (by decide) (t := (.object zs0)) (t' := (.object zs2)) (by decide) (by decide)
theorem sl_8 {Z : State} {a0 : Array Value} (hw : ∀ d ∈ tables_1, d.before a0 Z = true) : Jvm.RoadKit.slotOf Z zs0 "child1" zs16 ≠ Jvm.RoadKit.slotOf Z zs0 "value0" zs1 := slot_ne (C := zs0) (Or.inl (own_w hw 75 rfl)) (Or.inl (own_w hw 69 rfl)) (by decide) (t := (.object zs0)) (t' := (.object zs2)) (by decide) (by decide)
theorem sl_9 {Z : State} {a0 : Array Value} (hw : ∀ d ∈ tables_1, d.before a0 Z = true) : Jvm.RoadKit.slotOf Z zs0 "child1" zs16 ≠ Jvm.RoadKit.slotOf Z zs0 "child0" zs16 := slot_ne (C := zs0) (Or.inl (own_w hw 75 rfl)) (Or.inl (own_w hw 50 rfl)) (by decide) (t := (.object zs0)) (t' := (.object zs0)) (by decide) (by decide)
theorem d7_51 : decode prog_24_method_6_code 51 = .ok (.aload_n 3, 1) := by decide +kernel
theorem d7_52 : decode prog_24_method_6_code 52 = .ok (.aconst_null, 1) := by decide +kernel
theorem d7_53 : decode prog_24_method_6_code 53 = .ok (.putfield 100, 3) := by decide +kernel
theorem d7_56 : decode prog_24_method_6_code 56 = .ok (.aload_n 3, 1) := by decide +kernel
theorem d7_57 : decode prog_24_method_6_code 57 = .ok (.aconst_null, 1) := by decide +kernel
theorem d7_58 : decode prog_24_method_6_code 58 = .ok (.putfield 103, 3) := by decide +kernel
theorem sl_10 {Z : State} {a0 : Array Value} (hw : ∀ d ∈ tables_1, d.before a0 Z = true) : Jvm.RoadKit.slotOf Z zs0 "child3" zs16 ≠ Jvm.RoadKit.slotOf Z zs0 "child2" zs16 := slot_ne (C := zs0) (Or.inl (own_w hw 73 rfl)) (Or.inl (own_w hw 71 rfl)) (by decide) (t := (.object zs0)) (t' := (.object zs0)) (by decide) (by decide)
theorem d7_61 : decode prog_24_method_6_code 61 = .ok (.aload_n 3, 1) := by decide +kernel
theorem d7_62 : decode prog_24_method_6_code 62 = .ok (.iconst 1, 1) := by decide +kernel
theorem d7_63 : decode prog_24_method_6_code 63 = .ok (.invokevirtual 109, 3) := by decide +kernel
theorem d9_0 : decode prog_25_method_17_code 0 = .ok (.iload_n 1, 1) := by decide +kernel
theorem d9_1 : decode prog_25_method_17_code 1 = .ok (.tableswitch 48 0 2 #[27, 34, 41], 27) := by decide +kernel
theorem d9_35 : decode prog_25_method_17_code 35 = .ok (.aload_n 0, 1) := by decide +kernel
theorem d9_36 : decode prog_25_method_17_code 36 = .ok (.getfield 39, 3) := by decide +kernel
theorem sl_11 {Z : State} {a0 : Array Value} (hw : ∀ d ∈ tables_1, d.before a0 Z = true) : Jvm.RoadKit.slotOf Z zs0 "key1" zs1 ≠ Jvm.RoadKit.slotOf Z zs0 "child2" zs16 := slot_ne (C := zs0) (Or.inl (own_w hw 82 rfl)) (Or.inl (own_w hw 71 rfl)) (by decide) (t := (.object zs2)) (t' := (.object zs0)) (by decide) (by decide)
theorem sl_12 {Z : State} {a0 : Array Value} (hw : ∀ d ∈ tables_1, d.before a0 Z = true) : Jvm.RoadKit.slotOf Z zs0 "key1" zs1 ≠ Jvm.RoadKit.slotOf Z zs0 "child3" zs16 := slot_ne (C := zs0) (Or.inl (own_w hw 82 rfl)) (Or.inl (own_w hw 73 rfl)) (by decide) (t := (.object zs2)) (t' := (.object zs0)) (by decide) (by decide)
theorem d9_39 : decode prog_25_method_17_code 39 = .ok (.goto 19, 3) := by decide +kernel
theorem d9_58 : decode prog_25_method_17_code 58 = .ok (.astore_n 2, 1) := by decide +kernel
theorem d9_59 : decode prog_25_method_17_code 59 = .ok (.aload_n 2, 1) := by decide +kernel
theorem d9_60 : decode prog_25_method_17_code 60 = .ok (.invokestatic 71, 3) := by decide +kernel
theorem d10_0 : decode prog_25_method_19_code 0 = .ok (.aload_n 0, 1) := by decide +kernel
theorem d10_1 : decode prog_25_method_19_code 1 = .ok (.getstatic 94, 3) := by decide +kernel
theorem d10_4 : decode prog_25_method_19_code 4 = .ok (.if_acmp .ne 7, 3) := by decide +kernel
theorem d10_11 : decode prog_25_method_19_code 11 = .ok (.aload_n 0, 1) := by decide +kernel
theorem d10_12 : decode prog_25_method_19_code 12 = .ok (.areturn, 1) := by decide +kernel
theorem ef_10_N (m : MethodId)  : entryFrame m #[.null] 1 = mkF m 0 #[.val .null] [] := by first | (simp [entryFrame, mkF, argsToLocals, Value.category]; done) | rfl
set_option maxRecDepth 65536 in
set_option maxHeartbeats 40000000 in
theorem rm10_6 (l : Launch) (Z : State) (a0 : Array Value) (hw : ∀ d ∈ tables_1, d.before a0 Z = true) (ws : List Jvm.Cond) (a1 : Addr) (h0 : Heap) (n0 : Nat) (Z0 : n0 ≤ Array.size h0) (P0 : Sta Z h0 zs0 "NULL_KEY" zs1 (.ref a1)) :
    MetFree l (⟨zs0, "keyIn", zs18⟩ : MethodName) (head1 (Jvm.Cond.code (⟨zs0, "keyIn", zs18⟩ : MethodName) prog_25_method_19_code 1 (some (.object zs2)) :: ws) ({ frames := 0, cells := 0, slots := 0, locals := 0 } : Room)) (fun a U => a = #[.null] ∧ Z.Warmed39 U.vm ∧ U.heap = h0) (fun _ _ _ _ _ => True) (fun _ U o U' => ∃ v L, o = .returned v ∧ own_QQ n0 (own_Same (some .null) h0) v U'.heap L ∧ FrameEnd U o U' L ({ frames := 0, cells := 0, slots := 0, locals := 0 } : Room).cells ({ frames := 0, cells := 0, slots := 0, locals := 0 } : Room).slots) := by
  refine MetFree.of_bodySF (plainFor_of_name pn_com_example_napkintree_napkintree_balancing_MultiwayTree_Node) hisR ?_
  intro p e s m args below meth c s₁ Bd hml0 hP hK
  obtain ⟨rfl, hZ, hh⟩ := hP
  have hx := Bd.exec
  have hby := Bd.bytes
  have hml : c.maxLocals = 1 := hml0
  have hown : s.vm.findClass zs0 = some m.cls := findClass_of_methodNamed Bd.named
  have hnm := (name_of_methodNamed Bd.named Bd.method).1
  have hlk : meth.locks = false := BodyLoose.notSynchronized Bd
  have Y0 : own_S p l e ({ frames := 0, cells := 0, slots := 0, locals := 0 } : Room) s m #[.null] below meth c n0 s₁ h0 0 0 := ⟨[], Stand.of_body Bd, Fr.nil n0, by rw [← hh, Bd.state]; rfl, Z0⟩
  refine (?_ : own_Fin p e below _ _)
  refine own_st (fun t k => castTop (ef_10_N m ) k) ?_
  refine own_aloadN Y0 hx (pc' := 1) (hb hby d10_0) rfl rfl rfl ?_
  refine own_getS Y0 hx (pc' := 4) (v := (.ref a1)) hZ hown (host := "") (Or.inl (own_w hw 86 rfl)) Via.refl P0 (hb hby d10_1) rfl (fun T1 Y1 => ?_)
  refine own_acmp Y1 hx (pc' := 11) (same := false) (hb hby d10_4) rfl rfl (decide_eq_false nofun) (by decide) (by decide) ?_
  refine own_aloadN Y1 hx (pc' := 12) (hb hby d10_11) rfl rfl rfl ?_
  exact own_retA Y1 hx hlk Bd.returns rfl rfl rfl (hb hby d10_12) ⟨rfl, rfl⟩ (by decide) (by decide)
theorem pd__Ljava_lang_Object__Ljava_lang_Object_ : parseMethodDescriptor "(Ljava/lang/Object;)Ljava/lang/Object;" = some ⟨[(.object "java/lang/Object")], some (.object "java/lang/Object")⟩ := by decide +kernel
theorem d9_63 : decode prog_25_method_17_code 63 = .ok (.areturn, 1) := by decide +kernel
theorem ef_9_RI (m : MethodId) (x0 : Addr) (x1 : Int32) : entryFrame m #[(.ref x0), (.int x1)] 3 = mkF m 0 #[.val (.ref x0), .val (.int x1), .unset] [] := by first | (simp [entryFrame, mkF, argsToLocals, Value.category]; done) | rfl
set_option maxRecDepth 65536 in
set_option maxHeartbeats 40000000 in
theorem rm9_7 (l : Launch) (Z : State) (a0 : Array Value) (hw : ∀ d ∈ tables_1, d.before a0 Z = true) (ws : List Jvm.Cond) (a1 : Addr) (a2 : Addr) (h0 : Heap) (n0 : Nat) (Z0 : n0 ≤ Array.size h0) (P0 : Fld Z h0 a1 zs0 "key1" zs1 .null) (P1 : Sta Z h0 zs0 "NULL_KEY" zs1 (.ref a2)) :
    MetFree l (⟨zs0, "key", zs19⟩ : MethodName) (head1 (Jvm.Cond.code (⟨zs0, "key", zs19⟩ : MethodName) prog_25_method_17_code 3 (some (.object zs2)) :: ws) ({ frames := 1, cells := 0, slots := 0, locals := 12 } : Room)) (fun a U => a = #[(.ref a1), (.int (1 : Int32))] ∧ Z.Warmed39 U.vm ∧ U.heap = h0) (fun _ _ _ _ _ => True) (fun _ U o U' => ∃ v L, o = .returned v ∧ own_QQ n0 (own_Same (some .null) h0) v U'.heap L ∧ FrameEnd U o U' L ({ frames := 1, cells := 0, slots := 0, locals := 12 } : Room).cells ({ frames := 1, cells := 0, slots := 0, locals := 12 } : Room).slots) := by
  refine MetFree.of_bodySF (plainFor_of_name pn_com_example_napkintree_napkintree_balancing_MultiwayTree_Node) hisR ?_
  intro p e s m args below meth c s₁ Bd hml0 hP hK
  obtain ⟨rfl, hZ, hh⟩ := hP
  have hx := Bd.exec
  have hby := Bd.bytes
  have hml : c.maxLocals = 3 := hml0
  have hown : s.vm.findClass zs0 = some m.cls := findClass_of_methodNamed Bd.named
  have hnm := (name_of_methodNamed Bd.named Bd.method).1
  have hlk : meth.locks = false := BodyLoose.notSynchronized Bd
  have Y0 : own_S p l e ({ frames := 1, cells := 0, slots := 0, locals := 12 } : Room) s m #[(.ref a1), (.int (1 : Int32))] below meth c n0 s₁ h0 0 0 := ⟨[], Stand.of_body Bd, Fr.nil n0, by rw [← hh, Bd.state]; rfl, Z0⟩
  refine (?_ : own_Fin p e below _ _)
  refine own_st (fun t k => castTop (ef_9_RI m a1 (1 : Int32)) k) ?_
  refine own_iloadN Y0 hx (pc' := 1) (hb hby d9_0) rfl rfl ?_
  refine own_tswIn Y0 hx (pc' := 35) (o := 34) (hb hby d9_1) (by decide) (by decide) (by decide) (by decide) ?_
  refine own_aloadN Y0 hx (pc' := 36) (hb hby d9_35) rfl rfl rfl ?_
  refine own_getF Y0 hx (pc' := 39) (v := .null) hZ hown (host := "") (Or.inl (own_w hw 81 rfl)) Via.refl P0 (hb hby d9_36) rfl (fun T1 Y1 => ?_)
  refine own_goto Y1 hx (pc' := 58) (hb hby d9_39) (by decide) (by decide) ?_
  refine own_astoreN Y1 hx (pc' := 59) (Ls' := #[.val (.ref a1), .val (.int (1 : Int32)), .val .null]) (hb hby d9_58) rfl rfl rfl ?_
  refine own_aloadN Y1 hx (pc' := 60) (hb hby d9_59) rfl rfl rfl ?_
  refine own_static Y1 hx (pc' := 63) (W := 0) (cl' := 0) (sl' := 0) (as' := [.null]) (S' := []) hZ hown (own_w hw 83 rfl) (own_w hw 84 rfl) (own_w hw 3 rfl) (own_w hw 85 rfl) (by decide) (rm10_6 l Z a0 hw [] a2 h0 n0 (own_sz Y1) P1) (hb hby d9_60) rfl (by rw [hml]; rfl) rfl (lenOf pd__Ljava_lang_Object__Ljava_lang_Object_ rfl) rfl (by decide) (by decide) rfl rfl (by decide) (by decide) own_Same.sz (own_fixS (S2 := [.null]) rfl (fun T2 Y2 => ?_))
  exact own_retA Y2 hx hlk Bd.returns rfl rfl rfl (hb hby d9_63) ⟨rfl, rfl⟩ (by decide) (by decide)
theorem pd__I_Ljava_lang_Object_ : parseMethodDescriptor "(I)Ljava/lang/Object;" = some ⟨[.int], some (.object "java/lang/Object")⟩ := by decide +kernel
theorem d7_66 : decode prog_24_method_6_code 66 = .ok (.astore 5, 2) := by decide +kernel
theorem d7_68 : decode prog_24_method_6_code 68 = .ok (.aload_n 3, 1) := by decide +kernel
theorem d7_69 : decode prog_24_method_6_code 69 = .ok (.iconst 1, 1) := by decide +kernel
theorem d7_70 : decode prog_24_method_6_code 70 = .ok (.invokevirtual 110, 3) := by decide +kernel
theorem d11_0 : decode prog_25_method_20_code 0 = .ok (.iload_n 1, 1) := by decide +kernel
theorem d11_1 : decode prog_25_method_20_code 1 = .ok (.tableswitch 48 0 2 #[27, 34, 41], 27) := by decide +kernel
theorem d11_35 : decode prog_25_method_20_code 35 = .ok (.aload_n 0, 1) := by decide +kernel
theorem d11_36 : decode prog_25_method_20_code 36 = .ok (.getfield 42, 3) := by decide +kernel
theorem sl_13 {Z : State} {a0 : Array Value} (hw : ∀ d ∈ tables_1, d.before a0 Z = true) : Jvm.RoadKit.slotOf Z zs0 "value1" zs1 ≠ Jvm.RoadKit.slotOf Z zs0 "child2" zs16 := slot_ne (C := zs0) (Or.inl (own_w hw 94 rfl)) (Or.inl (own_w hw 71 rfl)) (by decide) (t := (.object zs2)) (t' := (.object zs0)) (by decide) (by decide)
theorem sl_14 {Z : State} {a0 : Array Value} (hw : ∀ d ∈ tables_1, d.before a0 Z = true) : Jvm.RoadKit.slotOf Z zs0 "value1" zs1 ≠ Jvm.RoadKit.slotOf Z zs0 "child3" zs16 := slot_ne (C := zs0) (Or.inl (own_w hw 94 rfl)) (Or.inl (own_w hw 73 rfl)) (by decide) (t := (.object zs2)) (t' := (.object zs0)) (by decide) (by decide)
theorem d11_39 : decode prog_25_method_20_code 39 = .ok (.goto 19, 3) := by decide +kernel
theorem d11_58 : decode prog_25_method_20_code 58 = .ok (.astore_n 2, 1) := by decide +kernel
theorem d11_59 : decode prog_25_method_20_code 59 = .ok (.aload_n 2, 1) := by decide +kernel
theorem d11_60 : decode prog_25_method_20_code 60 = .ok (.areturn, 1) := by decide +kernel
theorem ef_11_RI (m : MethodId) (x0 : Addr) (x1 : Int32) : entryFrame m #[(.ref x0), (.int x1)] 3 = mkF m 0 #[.val (.ref x0), .val (.int x1), .unset] [] := by first | (simp [entryFrame, mkF, argsToLocals, Value.category]; done) | rfl
set_option maxRecDepth 65536 in
set_option maxHeartbeats 40000000 in
theorem rm11_8 (l : Launch) (Z : State) (a0 : Array Value) (hw : ∀ d ∈ tables_1, d.before a0 Z = true) (ws : List Jvm.Cond) (a1 : Addr) (h0 : Heap) (n0 : Nat) (Z0 : n0 ≤ Array.size h0) (P0 : Fld Z h0 a1 zs0 "value1" zs1 .null) :
    MetFree l (⟨zs0, "value", zs19⟩ : MethodName) (head1 (Jvm.Cond.code (⟨zs0, "value", zs19⟩ : MethodName) prog_25_method_20_code 3 (some (.object zs2)) :: ws) ({ frames := 0, cells := 0, slots := 0, locals := 0 } : Room)) (fun a U => a = #[(.ref a1), (.int (1 : Int32))] ∧ Z.Warmed39 U.vm ∧ U.heap = h0) (fun _ _ _ _ _ => True) (fun _ U o U' => ∃ v L, o = .returned v ∧ own_QQ n0 (own_Same (some .null) h0) v U'.heap L ∧ FrameEnd U o U' L ({ frames := 0, cells := 0, slots := 0, locals := 0 } : Room).cells ({ frames := 0, cells := 0, slots := 0, locals := 0 } : Room).slots) := by
  refine MetFree.of_bodySF (plainFor_of_name pn_com_example_napkintree_napkintree_balancing_MultiwayTree_Node) hisR ?_
  intro p e s m args below meth c s₁ Bd hml0 hP hK
  obtain ⟨rfl, hZ, hh⟩ := hP
  have hx := Bd.exec
  have hby := Bd.bytes
  have hml : c.maxLocals = 3 := hml0
  have hown : s.vm.findClass zs0 = some m.cls := findClass_of_methodNamed Bd.named
  have hnm := (name_of_methodNamed Bd.named Bd.method).1
  have hlk : meth.locks = false := BodyLoose.notSynchronized Bd
  have Y0 : own_S p l e ({ frames := 0, cells := 0, slots := 0, locals := 0 } : Room) s m #[(.ref a1), (.int (1 : Int32))] below meth c n0 s₁ h0 0 0 := ⟨[], Stand.of_body Bd, Fr.nil n0, by rw [← hh, Bd.state]; rfl, Z0⟩
  refine (?_ : own_Fin p e below _ _)
  refine own_st (fun t k => castTop (ef_11_RI m a1 (1 : Int32)) k) ?_
  refine own_iloadN Y0 hx (pc' := 1) (hb hby d11_0) rfl rfl ?_
  refine own_tswIn Y0 hx (pc' := 35) (o := 34) (hb hby d11_1) (by decide) (by decide) (by decide) (by decide) ?_
  refine own_aloadN Y0 hx (pc' := 36) (hb hby d11_35) rfl rfl rfl ?_
  refine own_getF Y0 hx (pc' := 39) (v := .null) hZ hown (host := "") (Or.inl (own_w hw 93 rfl)) Via.refl P0 (hb hby d11_36) rfl (fun T1 Y1 => ?_)
  refine own_goto Y1 hx (pc' := 58) (hb hby d11_39) (by decide) (by decide) ?_
  refine own_astoreN Y1 hx (pc' := 59) (Ls' := #[.val (.ref a1), .val (.int (1 : Int32)), .val .null]) (hb hby d11_58) rfl rfl rfl ?_
  refine own_aloadN Y1 hx (pc' := 60) (hb hby d11_59) rfl rfl rfl ?_
  exact own_retA Y1 hx hlk Bd.returns rfl rfl rfl (hb hby d11_60) ⟨rfl, rfl⟩ (by decide) (by decide)
theorem d7_73 : decode prog_24_method_6_code 73 = .ok (.astore 6, 2) := by decide +kernel
theorem d7_75 : decode prog_24_method_6_code 75 = .ok (.aload_n 3, 1) := by decide +kernel
theorem d7_76 : decode prog_24_method_6_code 76 = .ok (.aconst_null, 1) := by decide +kernel
theorem d7_77 : decode prog_24_method_6_code 77 = .ok (.putfield 113, 3) := by decide +kernel
theorem d7_80 : decode prog_24_method_6_code 80 = .ok (.aload_n 3, 1) := by decide +kernel
theorem d7_81 : decode prog_24_method_6_code 81 = .ok (.aconst_null, 1) := by decide +kernel
theorem d7_82 : decode prog_24_method_6_code 82 = .ok (.putfield 87, 3) := by decide +kernel
theorem sl_15 {Z : State} {a0 : Array Value} (hw : ∀ d ∈ tables_1, d.before a0 Z = true) : Jvm.RoadKit.slotOf Z zs0 "key2" zs1 ≠ Jvm.RoadKit.slotOf Z zs0 "child2" zs16 := slot_ne (C := zs0) (Or.inl (own_w hw 63 rfl)) (Or.inl (own_w hw 71 rfl)) (by decide) (t := (.object zs2)) (t' := (.object zs0)) (by decide) (by decide)
theorem sl_16 {Z : State} {a0 : Array Value} (hw : ∀ d ∈ tables_1, d.before a0 Z = true) : Jvm.RoadKit.slotOf Z zs0 "key2" zs1 ≠ Jvm.RoadKit.slotOf Z zs0 "child3" zs16 := slot_ne (C := zs0) (Or.inl (own_w hw 63 rfl)) (Or.inl (own_w hw 73 rfl)) (by decide) (t := (.object zs2)) (t' := (.object zs0)) (by decide) (by decide)
theorem sl_17 {Z : State} {a0 : Array Value} (hw : ∀ d ∈ tables_1, d.before a0 Z = true) : Jvm.RoadKit.slotOf Z zs0 "key2" zs1 ≠ Jvm.RoadKit.slotOf Z zs0 "key1" zs1 := slot_ne (C := zs0) (Or.inl (own_w hw 63 rfl)) (Or.inl (own_w hw 82 rfl)) (by decide) (t := (.object zs2)) (t' := (.object zs2)) (by decide) (by decide)
theorem d7_85 : decode prog_24_method_6_code 85 = .ok (.aload_n 3, 1) := by decide +kernel
theorem d7_86 : decode prog_24_method_6_code 86 = .ok (.aconst_null, 1) := by decide +kernel
theorem d7_87 : decode prog_24_method_6_code 87 = .ok (.putfield 116, 3) := by decide +kernel
theorem sl_18 {Z : State} {a0 : Array Value} (hw : ∀ d ∈ tables_1, d.before a0 Z = true) : Jvm.RoadKit.slotOf Z zs0 "value1" zs1 ≠ Jvm.RoadKit.slotOf Z zs0 "key1" zs1 := slot_ne (C := zs0) (Or.inl (own_w hw 94 rfl)) (Or.inl (own_w hw 82 rfl)) (by decide) (t := (.object zs2)) (t' := (.object zs2)) (by decide) (by decide)
theorem sl_19 {Z : State} {a0 : Array Value} (hw : ∀ d ∈ tables_1, d.before a0 Z = true) : Jvm.RoadKit.slotOf Z zs0 "value1" zs1 ≠ Jvm.RoadKit.slotOf Z zs0 "key2" zs1 := slot_ne (C := zs0) (Or.inl (own_w hw 94 rfl)) (Or.inl (own_w hw 63 rfl)) (by decide) (t := (.object zs2)) (t' := (.object zs2)) (by decide) (by decide)
theorem d7_90 : decode prog_24_method_6_code 90 = .ok (.aload_n 3, 1) := by decide +kernel
theorem d7_91 : decode prog_24_method_6_code 91 = .ok (.aconst_null, 1) := by decide +kernel
theorem d7_92 : decode prog_24_method_6_code 92 = .ok (.putfield 94, 3) := by decide +kernel
theorem sl_20 {Z : State} {a0 : Array Value} (hw : ∀ d ∈ tables_1, d.before a0 Z = true) : Jvm.RoadKit.slotOf Z zs0 "value2" zs1 ≠ Jvm.RoadKit.slotOf Z zs0 "child2" zs16 := slot_ne (C := zs0) (Or.inl (own_w hw 67 rfl)) (Or.inl (own_w hw 71 rfl)) (by decide) (t := (.object zs2)) (t' := (.object zs0)) (by decide) (by decide)
theorem sl_21 {Z : State} {a0 : Array Value} (hw : ∀ d ∈ tables_1, d.before a0 Z = true) : Jvm.RoadKit.slotOf Z zs0 "value2" zs1 ≠ Jvm.RoadKit.slotOf Z zs0 "child3" zs16 := slot_ne (C := zs0) (Or.inl (own_w hw 67 rfl)) (Or.inl (own_w hw 73 rfl)) (by decide) (t := (.object zs2)) (t' := (.object zs0)) (by decide) (by decide)
theorem sl_22 {Z : State} {a0 : Array Value} (hw : ∀ d ∈ tables_1, d.before a0 Z = true) : Jvm.RoadKit.slotOf Z zs0 "value2" zs1 ≠ Jvm.RoadKit.slotOf Z zs0 "key1" zs1 := slot_ne (C := zs0) (Or.inl (own_w hw 67 rfl)) (Or.inl (own_w hw 82 rfl)) (by decide) (t := (.object zs2)) (t' := (.object zs2)) (by decide) (by decide)
theorem sl_23 {Z : State} {a0 : Array Value} (hw : ∀ d ∈ tables_1, d.before a0 Z = true) : Jvm.RoadKit.slotOf Z zs0 "value2" zs1 ≠ Jvm.RoadKit.slotOf Z zs0 "key2" zs1 := slot_ne (C := zs0) (Or.inl (own_w hw 67 rfl)) (Or.inl (own_w hw 63 rfl)) (by decide) (t := (.object zs2)) (t' := (.object zs2)) (by decide) (by decide)
theorem sl_24 {Z : State} {a0 : Array Value} (hw : ∀ d ∈ tables_1, d.before a0 Z = true) : Jvm.RoadKit.slotOf Z zs0 "value2" zs1 ≠ Jvm.RoadKit.slotOf Z zs0 "value1" zs1 := slot_ne (C := zs0) (Or.inl (own_w hw 67 rfl)) (Or.inl (own_w hw 94 rfl)) (by decide) (t := (.object zs2)) (t' := (.object zs2)) (by decide) (by decide)
theorem d7_95 : decode prog_24_method_6_code 95 = .ok (.aload_n 1, 1) := by decide +kernel
theorem d7_96 : decode prog_24_method_6_code 96 = .ok (.iload_n 2, 1) := by decide +kernel
theorem d7_97 : decode prog_24_method_6_code 97 = .ok (.aload 5, 2) := by decide +kernel
theorem d7_99 : decode prog_24_method_6_code 99 = .ok (.aload 6, 2) := by decide +kernel
theorem d7_101 : decode prog_24_method_6_code 101 = .ok (.iload_n 2, 1) := by decide +kernel
theorem d7_102 : decode prog_24_method_6_code 102 = .ok (.iconst 1, 1) := by decide +kernel
theorem d7_103 : decode prog_24_method_6_code 103 = .ok (.iadd, 1) := by decide +kernel
theorem d7_104 : decode prog_24_method_6_code 104 = .ok (.aload 4, 2) := by decide +kernel
theorem d7_106 : decode prog_24_method_6_code 106 = .ok (.invokevirtual 119, 3) := by decide +kernel
theorem d12_0 : decode prog_25_method_2_code 0 = .ok (.aload_n 0, 1) := by decide +kernel
theorem d12_1 : decode prog_25_method_2_code 1 = .ok (.iload_n 1, 1) := by decide +kernel
theorem d12_2 : decode prog_25_method_2_code 2 = .ok (.aload_n 2, 1) := by decide +kernel
theorem d12_3 : decode prog_25_method_2_code 3 = .ok (.aload_n 3, 1) := by decide +kernel
theorem d12_4 : decode prog_25_method_2_code 4 = .ok (.invokevirtual 7, 3) := by decide +kernel
theorem d13_0 : decode prog_25_method_4_code 0 = .ok (.aload_n 2, 1) := by decide +kernel
theorem d13_1 : decode prog_25_method_4_code 1 = .ok (.invokestatic 28, 3) := by decide +kernel
theorem d14_0 : decode prog_25_method_18_code 0 = .ok (.aload_n 0, 1) := by decide +kernel
theorem d14_1 : decode prog_25_method_18_code 1 = .ok (.ifnonnull 9, 3) := by decide +kernel
theorem d14_4 : decode prog_25_method_18_code 4 = .ok (.getstatic 94, 3) := by decide +kernel
theorem d14_7 : decode prog_25_method_18_code 7 = .ok (.goto 4, 3) := by decide +kernel
theorem d14_11 : decode prog_25_method_18_code 11 = .ok (.areturn, 1) := by decide +kernel
theorem ef_14_N (m : MethodId)  : entryFrame m #[.null] 1 = mkF m 0 #[.val .null] [] := by first | (simp [entryFrame, mkF, argsToLocals, Value.category]; done) | rfl
set_option maxRecDepth 65536 in
set_option maxHeartbeats 40000000 in
theorem rm14_9 (l : Launch) (Z : State) (a0 : Array Value) (hw : ∀ d ∈ tables_1, d.before a0 Z = true) (ws : List Jvm.Cond) (a1 : Addr) (h0 : Heap) (n0 : Nat) (Z0 : n0 ≤ Array.size h0) (P0 : Sta Z h0 zs0 "NULL_KEY" zs1 (.ref a1)) :
    MetFree l (⟨zs0, "slotFor", zs18⟩ : MethodName) (head1 (Jvm.Cond.code (⟨zs0, "slotFor", zs18⟩ : MethodName) prog_25_method_18_code 1 (some (.object zs2)) :: ws) ({ frames := 0, cells := 0, slots := 0, locals := 0 } : Room)) (fun a U => a = #[.null] ∧ Z.Warmed39 U.vm ∧ U.heap = h0) (fun _ _ _ _ _ => True) (fun _ U o U' => ∃ v L, o = .returned v ∧ own_QQ n0 (own_Same (some (.ref a1)) h0) v U'.heap L ∧ FrameEnd U o U' L ({ frames := 0, cells := 0, slots := 0, locals := 0 } : Room).cells ({ frames := 0, cells := 0, slots := 0, locals := 0 } : Room).slots) := by
  refine MetFree.of_bodySF (plainFor_of_name pn_com_example_napkintree_napkintree_balancing_MultiwayTree_Node) hisR ?_
  intro p e s m args below meth c s₁ Bd hml0 hP hK
  obtain ⟨rfl, hZ, hh⟩ := hP
  have hx := Bd.exec
  have hby := Bd.bytes
  have hml : c.maxLocals = 1 := hml0
  have hown : s.vm.findClass zs0 = some m.cls := findClass_of_methodNamed Bd.named
  have hnm := (name_of_methodNamed Bd.named Bd.method).1
  have hlk : meth.locks = false := BodyLoose.notSynchronized Bd
  have Y0 : own_S p l e ({ frames := 0, cells := 0, slots := 0, locals := 0 } : Room) s m #[.null] below meth c n0 s₁ h0 0 0 := ⟨[], Stand.of_body Bd, Fr.nil n0, by rw [← hh, Bd.state]; rfl, Z0⟩
  refine (?_ : own_Fin p e below _ _)
  refine own_st (fun t k => castTop (ef_14_N m ) k) ?_
  refine own_aloadN Y0 hx (pc' := 1) (hb hby d14_0) rfl rfl rfl ?_
  refine own_ifnonnullNo Y0 hx (pc' := 4) (hb hby d14_1) rfl ?_
  refine own_getS Y0 hx (pc' := 7) (v := (.ref a1)) hZ hown (host := "") (Or.inl (own_w hw 86 rfl)) Via.refl P0 (hb hby d14_4) rfl (fun T1 Y1 => ?_)
  refine own_goto Y1 hx (pc' := 11) (hb hby d14_7) (by decide) (by decide) ?_
  exact own_retA Y1 hx hlk Bd.returns rfl rfl rfl (hb hby d14_11) ⟨rfl, rfl⟩ (by decide) (by decide)
theorem d13_4 : decode prog_25_method_4_code 4 = .ok (.astore 4, 2) := by decide +kernel
theorem d13_6 : decode prog_25_method_4_code 6 = .ok (.iload_n 1, 1) := by decide +kernel
theorem d13_7 : decode prog_25_method_4_code 7 = .ok (.iconst 2, 1) := by decide +kernel
theorem d13_8 : decode prog_25_method_4_code 8 = .ok (.if_icmp .ne 17, 3) := by decide +kernel
theorem d13_25 : decode prog_25_method_4_code 25 = .ok (.aload_n 0, 1) := by decide +kernel
theorem d13_26 : decode prog_25_method_4_code 26 = .ok (.aload_n 0, 1) := by decide +kernel
theorem d13_27 : decode prog_25_method_4_code 27 = .ok (.getfield 39, 3) := by decide +kernel
theorem sl_25 {Z : State} {a0 : Array Value} (hw : ∀ d ∈ tables_1, d.before a0 Z = true) : Jvm.RoadKit.slotOf Z zs0 "key1" zs1 ≠ Jvm.RoadKit.slotOf Z zs0 "child0" zs16 := slot_ne (C := zs0) (Or.inl (own_w hw 82 rfl)) (Or.inl (own_w hw 50 rfl)) (by decide) (t := (.object zs2)) (t' := (.object zs0)) (by decide) (by decide)
theorem d13_30 : decode prog_25_method_4_code 30 = .ok (.putfield 32, 3) := by decide +kernel
theorem sl_26 {Z : State} {a0 : Array Value} (hw : ∀ d ∈ tables_1, d.before a0 Z = true) : Jvm.RoadKit.slotOf Z zs0 "key2" zs1 ≠ Jvm.RoadKit.slotOf Z zs0 "child0" zs16 := slot_ne (C := zs0) (Or.inl (own_w hw 63 rfl)) (Or.inl (own_w hw 50 rfl)) (by decide) (t := (.object zs2)) (t' := (.object zs0)) (by decide) (by decide)
theorem d13_33 : decode prog_25_method_4_code 33 = .ok (.aload_n 0, 1) := by decide +kernel
theorem d13_34 : decode prog_25_method_4_code 34 = .ok (.aload_n 0, 1) := by decide +kernel
theorem d13_35 : decode prog_25_method_4_code 35 = .ok (.getfield 42, 3) := by decide +kernel
theorem sl_27 {Z : State} {a0 : Array Value} (hw : ∀ d ∈ tables_1, d.before a0 Z = true) : Jvm.RoadKit.slotOf Z zs0 "value1" zs1 ≠ Jvm.RoadKit.slotOf Z zs0 "child0" zs16 := slot_ne (C := zs0) (Or.inl (own_w hw 94 rfl)) (Or.inl (own_w hw 50 rfl)) (by decide) (t := (.object zs2)) (t' := (.object zs0)) (by decide) (by decide)
theorem d13_38 : decode prog_25_method_4_code 38 = .ok (.putfield 36, 3) := by decide +kernel
theorem sl_28 {Z : State} {a0 : Array Value} (hw : ∀ d ∈ tables_1, d.before a0 Z = true) : Jvm.RoadKit.slotOf Z zs0 "value2" zs1 ≠ Jvm.RoadKit.slotOf Z zs0 "child0" zs16 := slot_ne (C := zs0) (Or.inl (own_w hw 67 rfl)) (Or.inl (own_w hw 50 rfl)) (by decide) (t := (.object zs2)) (t' := (.object zs0)) (by decide) (by decide)
theorem d13_41 : decode prog_25_method_4_code 41 = .ok (.iload_n 1, 1) := by decide +kernel
theorem d13_42 : decode prog_25_method_4_code 42 = .ok (.iconst 1, 1) := by decide +kernel
theorem d13_43 : decode prog_25_method_4_code 43 = .ok (.if_icmp .ne 17, 3) := by decide +kernel
theorem d13_60 : decode prog_25_method_4_code 60 = .ok (.aload_n 0, 1) := by decide +kernel
theorem d13_61 : decode prog_25_method_4_code 61 = .ok (.aload_n 0, 1) := by decide +kernel
theorem d13_62 : decode prog_25_method_4_code 62 = .ok (.getfield 45, 3) := by decide +kernel
theorem sl_29 {Z : State} {a0 : Array Value} (hw : ∀ d ∈ tables_1, d.before a0 Z = true) : Jvm.RoadKit.slotOf Z zs0 "key0" zs1 ≠ Jvm.RoadKit.slotOf Z zs0 "child0" zs16 := slot_ne (C := zs0) (Or.inl (own_w hw 65 rfl)) (Or.inl (own_w hw 50 rfl)) (by decide) (t := (.object zs2)) (t' := (.object zs0)) (by decide) (by decide)
theorem sl_30 {Z : State} {a0 : Array Value} (hw : ∀ d ∈ tables_1, d.before a0 Z = true) : Jvm.RoadKit.slotOf Z zs0 "key0" zs1 ≠ Jvm.RoadKit.slotOf Z zs0 "key2" zs1 := slot_ne (C := zs0) (Or.inl (own_w hw 65 rfl)) (Or.inl (own_w hw 63 rfl)) (by decide) (t := (.object zs2)) (t' := (.object zs2)) (by decide) (by decide)
theorem sl_31 {Z : State} {a0 : Array Value} (hw : ∀ d ∈ tables_1, d.before a0 Z = true) : Jvm.RoadKit.slotOf Z zs0 "key0" zs1 ≠ Jvm.RoadKit.slotOf Z zs0 "value2" zs1 := slot_ne (C := zs0) (Or.inl (own_w hw 65 rfl)) (Or.inl (own_w hw 67 rfl)) (by decide) (t := (.object zs2)) (t' := (.object zs2)) (by decide) (by decide)
theorem d13_65 : decode prog_25_method_4_code 65 = .ok (.putfield 39, 3) := by decide +kernel
theorem sl_32 {Z : State} {a0 : Array Value} (hw : ∀ d ∈ tables_1, d.before a0 Z = true) : Jvm.RoadKit.slotOf Z zs0 "key1" zs1 ≠ Jvm.RoadKit.slotOf Z zs0 "key2" zs1 := slot_ne (C := zs0) (Or.inl (own_w hw 82 rfl)) (Or.inl (own_w hw 63 rfl)) (by decide) (t := (.object zs2)) (t' := (.object zs2)) (by decide) (by decide)
theorem sl_33 {Z : State} {a0 : Array Value} (hw : ∀ d ∈ tables_1, d.before a0 Z = true) : Jvm.RoadKit.slotOf Z zs0 "key1" zs1 ≠ Jvm.RoadKit.slotOf Z zs0 "value2" zs1 := slot_ne (C := zs0) (Or.inl (own_w hw 82 rfl)) (Or.inl (own_w hw 67 rfl)) (by decide) (t := (.object zs2)) (t' := (.object zs2)) (by decide) (by decide)
theorem d13_68 : decode prog_25_method_4_code 68 = .ok (.aload_n 0, 1) := by decide +kernel
theorem d13_69 : decode prog_25_method_4_code 69 = .ok (.aload_n 0, 1) := by decide +kernel
theorem d13_70 : decode prog_25_method_4_code 70 = .ok (.getfield 48, 3) := by decide +kernel
theorem sl_34 {Z : State} {a0 : Array Value} (hw : ∀ d ∈ tables_1, d.before a0 Z = true) : Jvm.RoadKit.slotOf Z zs0 "value0" zs1 ≠ Jvm.RoadKit.slotOf Z zs0 "child0" zs16 := slot_ne (C := zs0) (Or.inl (own_w hw 69 rfl)) (Or.inl (own_w hw 50 rfl)) (by decide) (t := (.object zs2)) (t' := (.object zs0)) (by decide) (by decide)
theorem sl_35 {Z : State} {a0 : Array Value} (hw : ∀ d ∈ tables_1, d.before a0 Z = true) : Jvm.RoadKit.slotOf Z zs0 "value0" zs1 ≠ Jvm.RoadKit.slotOf Z zs0 "key2" zs1 := slot_ne (C := zs0) (Or.inl (own_w hw 69 rfl)) (Or.inl (own_w hw 63 rfl)) (by decide) (t := (.object zs2)) (t' := (.object zs2)) (by decide) (by decide)
theorem sl_36 {Z : State} {a0 : Array Value} (hw : ∀ d ∈ tables_1, d.before a0 Z = true) : Jvm.RoadKit.slotOf Z zs0 "value0" zs1 ≠ Jvm.RoadKit.slotOf Z zs0 "value2" zs1 := slot_ne (C := zs0) (Or.inl (own_w hw 69 rfl)) (Or.inl (own_w hw 67 rfl)) (by decide) (t := (.object zs2)) (t' := (.object zs2)) (by decide) (by decide)
theorem sl_37 {Z : State} {a0 : Array Value} (hw : ∀ d ∈ tables_1, d.before a0 Z = true) : Jvm.RoadKit.slotOf Z zs0 "value0" zs1 ≠ Jvm.RoadKit.slotOf Z zs0 "key1" zs1 := slot_ne (C := zs0) (Or.inl (own_w hw 69 rfl)) (Or.inl (own_w hw 82 rfl)) (by decide) (t := (.object zs2)) (t' := (.object zs2)) (by decide) (by decide)
theorem d13_73 : decode prog_25_method_4_code 73 = .ok (.putfield 42, 3) := by decide +kernel
theorem sl_38 {Z : State} {a0 : Array Value} (hw : ∀ d ∈ tables_1, d.before a0 Z = true) : Jvm.RoadKit.slotOf Z zs0 "value1" zs1 ≠ Jvm.RoadKit.slotOf Z zs0 "value2" zs1 := slot_ne (C := zs0) (Or.inl (own_w hw 94 rfl)) (Or.inl (own_w hw 67 rfl)) (by decide) (t := (.object zs2)) (t' := (.object zs2)) (by decide) (by decide)
theorem d13_76 : decode prog_25_method_4_code 76 = .ok (.aload_n 0, 1) := by decide +kernel
theorem d13_77 : decode prog_25_method_4_code 77 = .ok (.aload 4, 2) := by decide +kernel
theorem d13_79 : decode prog_25_method_4_code 79 = .ok (.putfield 45, 3) := by decide +kernel
theorem sl_39 {Z : State} {a0 : Array Value} (hw : ∀ d ∈ tables_1, d.before a0 Z = true) : Jvm.RoadKit.slotOf Z zs0 "key0" zs1 ≠ Jvm.RoadKit.slotOf Z zs0 "key1" zs1 := slot_ne (C := zs0) (Or.inl (own_w hw 65 rfl)) (Or.inl (own_w hw 82 rfl)) (by decide) (t := (.object zs2)) (t' := (.object zs2)) (by decide) (by decide)
theorem sl_40 {Z : State} {a0 : Array Value} (hw : ∀ d ∈ tables_1, d.before a0 Z = true) : Jvm.RoadKit.slotOf Z zs0 "key0" zs1 ≠ Jvm.RoadKit.slotOf Z zs0 "value1" zs1 := slot_ne (C := zs0) (Or.inl (own_w hw 65 rfl)) (Or.inl (own_w hw 94 rfl)) (by decide) (t := (.object zs2)) (t' := (.object zs2)) (by decide) (by decide)
theorem d13_82 : decode prog_25_method_4_code 82 = .ok (.aload_n 0, 1) := by decide +kernel
theorem d13_83 : decode prog_25_method_4_code 83 = .ok (.aload_n 3, 1) := by decide +kernel
theorem d13_84 : decode prog_25_method_4_code 84 = .ok (.putfield 48, 3) := by decide +kernel
theorem sl_41 {Z : State} {a0 : Array Value} (hw : ∀ d ∈ tables_1, d.before a0 Z = true) : Jvm.RoadKit.slotOf Z zs0 "value0" zs1 ≠ Jvm.RoadKit.slotOf Z zs0 "value1" zs1 := slot_ne (C := zs0) (Or.inl (own_w hw 69 rfl)) (Or.inl (own_w hw 94 rfl)) (by decide) (t := (.object zs2)) (t' := (.object zs2)) (by decide) (by decide)
theorem d13_87 : decode prog_25_method_4_code 87 = .ok (.return_, 1) := by decide +kernel
theorem sl_42 {Z : State} {a0 : Array Value} (hw : ∀ d ∈ tables_1, d.before a0 Z = true) : Jvm.RoadKit.slotOf Z zs0 "key2" zs1 ≠ Jvm.RoadKit.slotOf Z zs0 "value2" zs1 := slot_ne (C := zs0) (Or.inl (own_w hw 63 rfl)) (Or.inl (own_w hw 67 rfl)) (by decide) (t := (.object zs2)) (t' := (.object zs2)) (by decide) (by decide)
theorem sl_43 {Z : State} {a0 : Array Value} (hw : ∀ d ∈ tables_1, d.before a0 Z = true) : Jvm.RoadKit.slotOf Z zs0 "key2" zs1 ≠ Jvm.RoadKit.slotOf Z zs0 "value1" zs1 := slot_ne (C := zs0) (Or.inl (own_w hw 63 rfl)) (Or.inl (own_w hw 94 rfl)) (by decide) (t := (.object zs2)) (t' := (.object zs2)) (by decide) (by decide)
theorem sl_44 {Z : State} {a0 : Array Value} (hw : ∀ d ∈ tables_1, d.before a0 Z = true) : Jvm.RoadKit.slotOf Z zs0 "key2" zs1 ≠ Jvm.RoadKit.slotOf Z zs0 "key0" zs1 := slot_ne (C := zs0) (Or.inl (own_w hw 63 rfl)) (Or.inl (own_w hw 65 rfl)) (by decide) (t := (.object zs2)) (t' := (.object zs2)) (by decide) (by decide)
theorem sl_45 {Z : State} {a0 : Array Value} (hw : ∀ d ∈ tables_1, d.before a0 Z = true) : Jvm.RoadKit.slotOf Z zs0 "key2" zs1 ≠ Jvm.RoadKit.slotOf Z zs0 "value0" zs1 := slot_ne (C := zs0) (Or.inl (own_w hw 63 rfl)) (Or.inl (own_w hw 69 rfl)) (by decide) (t := (.object zs2)) (t' := (.object zs2)) (by decide) (by decide)
theorem sl_46 {Z : State} {a0 : Array Value} (hw : ∀ d ∈ tables_1, d.before a0 Z = true) : Jvm.RoadKit.slotOf Z zs0 "value2" zs1 ≠ Jvm.RoadKit.slotOf Z zs0 "key0" zs1 := slot_ne (C := zs0) (Or.inl (own_w hw 67 rfl)) (Or.inl (own_w hw 65 rfl)) (by decide) (t := (.object zs2)) (t' := (.object zs2)) (by decide) (by decide)
theorem sl_47 {Z : State} {a0 : Array Value} (hw : ∀ d ∈ tables_1, d.before a0 Z = true) : Jvm.RoadKit.slotOf Z zs0 "value2" zs1 ≠ Jvm.RoadKit.slotOf Z zs0 "value0" zs1 := slot_ne (C := zs0) (Or.inl (own_w hw 67 rfl)) (Or.inl (own_w hw 69 rfl)) (by decide) (t := (.object zs2)) (t' := (.object zs2)) (by decide) (by decide)
theorem sl_48 {Z : State} {a0 : Array Value} (hw : ∀ d ∈ tables_1, d.before a0 Z = true) : Jvm.RoadKit.slotOf Z zs0 "key1" zs1 ≠ Jvm.RoadKit.slotOf Z zs0 "value1" zs1 := slot_ne (C := zs0) (Or.inl (own_w hw 82 rfl)) (Or.inl (own_w hw 94 rfl)) (by decide) (t := (.object zs2)) (t' := (.object zs2)) (by decide) (by decide)
theorem sl_49 {Z : State} {a0 : Array Value} (hw : ∀ d ∈ tables_1, d.before a0 Z = true) : Jvm.RoadKit.slotOf Z zs0 "key1" zs1 ≠ Jvm.RoadKit.slotOf Z zs0 "key0" zs1 := slot_ne (C := zs0) (Or.inl (own_w hw 82 rfl)) (Or.inl (own_w hw 65 rfl)) (by decide) (t := (.object zs2)) (t' := (.object zs2)) (by decide) (by decide)
theorem sl_50 {Z : State} {a0 : Array Value} (hw : ∀ d ∈ tables_1, d.before a0 Z = true) : Jvm.RoadKit.slotOf Z zs0 "key1" zs1 ≠ Jvm.RoadKit.slotOf Z zs0 "value0" zs1 := slot_ne (C := zs0) (Or.inl (own_w hw 82 rfl)) (Or.inl (own_w hw 69 rfl)) (by decide) (t := (.object zs2)) (t' := (.object zs2)) (by decide) (by decide)
theorem sl_51 {Z : State} {a0 : Array Value} (hw : ∀ d ∈ tables_1, d.before a0 Z = true) : Jvm.RoadKit.slotOf Z zs0 "value1" zs1 ≠ Jvm.RoadKit.slotOf Z zs0 "key0" zs1 := slot_ne (C := zs0) (Or.inl (own_w hw 94 rfl)) (Or.inl (own_w hw 65 rfl)) (by decide) (t := (.object zs2)) (t' := (.object zs2)) (by decide) (by decide)
theorem sl_52 {Z : State} {a0 : Array Value} (hw : ∀ d ∈ tables_1, d.before a0 Z = true) : Jvm.RoadKit.slotOf Z zs0 "value1" zs1 ≠ Jvm.RoadKit.slotOf Z zs0 "value0" zs1 := slot_ne (C := zs0) (Or.inl (own_w hw 94 rfl)) (Or.inl (own_w hw 69 rfl)) (by decide) (t := (.object zs2)) (t' := (.object zs2)) (by decide) (by decide)
theorem sl_53 {Z : State} {a0 : Array Value} (hw : ∀ d ∈ tables_1, d.before a0 Z = true) : Jvm.RoadKit.slotOf Z zs0 "key0" zs1 ≠ Jvm.RoadKit.slotOf Z zs0 "value0" zs1 := slot_ne (C := zs0) (Or.inl (own_w hw 65 rfl)) (Or.inl (own_w hw 69 rfl)) (by decide) (t := (.object zs2)) (t' := (.object zs2)) (by decide) (by decide)
theorem ef_13_RINN (m : MethodId) (x0 : Addr) (x1 : Int32) : entryFrame m #[(.ref x0), (.int x1), .null, .null] 5 = mkF m 0 #[.val (.ref x0), .val (.int x1), .val .null, .val .null, .unset] [] := by first | (simp [entryFrame, mkF, argsToLocals, Value.category]; done) | rfl
def P13_10 (Z : State) (a1 : Addr) (a2 : Addr) (h0 : Heap) (h : Heap) : Prop := own_Kp h0 h [(a1, Jvm.RoadKit.slotOf Z zs0 "key2" zs1), (a1, Jvm.RoadKit.slotOf Z zs0 "value2" zs1), (a1, Jvm.RoadKit.slotOf Z zs0 "key1" zs1), (a1, Jvm.RoadKit.slotOf Z zs0 "value1" zs1), (a1, Jvm.RoadKit.slotOf Z zs0 "key0" zs1), (a1, Jvm.RoadKit.slotOf Z zs0 "value0" zs1)] ∧ Fld Z h a1 zs0 "key2" zs1 .null ∧ Fld Z h a1 zs0 "value2" zs1 .null ∧ Fld Z h a1 zs0 "key1" zs1 .null ∧ Fld Z h a1 zs0 "value1" zs1 .null ∧ Fld Z h a1 zs0 "key0" zs1 (.ref a2) ∧ Fld Z h a1 zs0 "value0" zs1 .null
theorem P13_10_sz {Z : State} {a1 : Addr} {a2 : Addr} {h0 : Heap} : ∀ v h', (own_R none (P13_10 Z a1 a2 h0)) v h' → Array.size h0 ≤ Array.size h' := by
  intro v h' q
  obtain ⟨-, K, -⟩ := q
  exact K.1
set_option maxRecDepth 65536 in
set_option maxHeartbeats 40000000 in
theorem rm13_10 (l : Launch) (Z : State) (a0 : Array Value) (hw : ∀ d ∈ tables_1, d.before a0 Z = true) (ws : List Jvm.Cond) (a1 : Addr) (a2 : Addr) (h0 : Heap) (n0 : Nat) (Z0 : n0 ≤ Array.size h0) (P0 : Sta Z h0 zs0 "NULL_KEY" zs1 (.ref a2)) (P1 : Fld Z h0 a1 zs0 "key1" zs1 .null) (P2 : Fld Z h0 a1 zs0 "key2" zs1 .null) (P3 : Exa Z h0 a1 zs0) (P4 : n0 ≤ a1) (P5 : Fld Z h0 a1 zs0 "value1" zs1 .null) (P6 : Fld Z h0 a1 zs0 "value2" zs1 .null) (P7 : Fld Z h0 a1 zs0 "key0" zs1 .null) (P8 : Fld Z h0 a1 zs0 "value0" zs1 .null) :
    MetFree l (⟨zs0, "insertEntry", zs20⟩ : MethodName) (head1 (Jvm.Cond.code (⟨zs0, "insertEntry", zs20⟩ : MethodName) prog_25_method_4_code 5 none :: ws) ({ frames := 1, cells := 0, slots := 0, locals := 12 } : Room)) (fun a U => a = #[(.ref a1), (.int (0 : Int32)), .null, .null] ∧ Z.Warmed39 U.vm ∧ U.heap = h0) (fun _ _ _ _ _ => True) (fun _ U o U' => ∃ v L, o = .returned v ∧ own_QQ n0 (own_R none (P13_10 Z a1 a2 h0)) v U'.heap L ∧ FrameEnd U o U' L ({ frames := 1, cells := 0, slots := 0, locals := 12 } : Room).cells ({ frames := 1, cells := 0, slots := 0, locals := 12 } : Room).slots) := by
  refine MetFree.of_bodySF (plainFor_of_name pn_com_example_napkintree_napkintree_balancing_MultiwayTree_Node) hisR ?_
  intro p e s m args below meth c s₁ Bd hml0 hP hK
  obtain ⟨rfl, hZ, hh⟩ := hP
  have hx := Bd.exec
  have hby := Bd.bytes
  have hml : c.maxLocals = 5 := hml0
  have hown : s.vm.findClass zs0 = some m.cls := findClass_of_methodNamed Bd.named
  have hnm := (name_of_methodNamed Bd.named Bd.method).1
  have hlk : meth.locks = false := BodyLoose.notSynchronized Bd
  have Y0 : own_S p l e ({ frames := 1, cells := 0, slots := 0, locals := 12 } : Room) s m #[(.ref a1), (.int (0 : Int32)), .null, .null] below meth c n0 s₁ h0 0 0 := ⟨[], Stand.of_body Bd, Fr.nil n0, by rw [← hh, Bd.state]; rfl, Z0⟩
  refine (?_ : own_Fin p e below _ _)
  refine own_st (fun t k => castTop (ef_13_RINN m a1 (0 : Int32)) k) ?_
  refine own_aloadN Y0 hx (pc' := 1) (hb hby d13_0) rfl rfl rfl ?_
  refine own_static Y0 hx (pc' := 4) (W := 0) (cl' := 0) (sl' := 0) (as' := [.null]) (S' := []) hZ hown (own_w hw 107 rfl) (own_w hw 108 rfl) (own_w hw 3 rfl) (own_w hw 109 rfl) (by decide) (rm14_9 l Z a0 hw [] a2 h0 n0 (own_sz Y0) P0) (hb hby d13_1) rfl (by rw [hml]; rfl) rfl (lenOf pd__Ljava_lang_Object__Ljava_lang_Object_ rfl) rfl (by decide) (by decide) rfl rfl (by decide) (by decide) own_Same.sz (own_fixS (S2 := [(.ref a2)]) rfl (fun T1 Y1 => ?_))
  refine own_astore Y1 hx (pc' := 6) (Ls' := #[.val (.ref a1), .val (.int (0 : Int32)), .val .null, .val .null, .val (.ref a2)]) (hb hby d13_4) rfl rfl rfl ?_
  refine own_iloadN Y1 hx (pc' := 7) (hb hby d13_6) rfl rfl ?_
  refine own_iconst Y1 hx (pc' := 8) (x := (2 : Int32)) (hb hby d13_7) rfl (by decide) ?_
  refine own_icmpYes Y1 hx (pc' := 25) (hb hby d13_8) (by decide) (by decide) (by decide) ?_
  refine own_aloadN Y1 hx (pc' := 26) (hb hby d13_25) rfl rfl rfl ?_
  refine own_aloadN Y1 hx (pc' := 27) (hb hby d13_26) rfl rfl rfl ?_
  refine own_getF Y1 hx (pc' := 30) (v := .null) hZ hown (host := "") (Or.inl (own_w hw 81 rfl)) Via.refl P1 (hb hby d13_27) rfl (fun T2 Y2 => ?_)
  refine own_putF Y2 hx (pc' := 33) hZ hown (host := "") (Or.inl (own_w hw 110 rfl)) Via.refl P2 P3 (Or.inl (own_w hw 63 rfl)) (own_w hw 2 rfl) (ty := (.object zs2)) (by decide) rfl rfl P4 (hb hby d13_30) rfl (fun T3 h3 Y3 K3 F3 => ?_)
  refine own_aloadN Y3 hx (pc' := 34) (hb hby d13_33) rfl rfl rfl ?_
  refine own_aloadN Y3 hx (pc' := 35) (hb hby d13_34) rfl rfl rfl ?_
  have F4 := (own_F (v := .null) P5 K3 (own_nr (sl_19 hw) own_nin0))
  refine own_getF Y3 hx (pc' := 38) (v := .null) hZ hown (host := "") (Or.inl (own_w hw 93 rfl)) Via.refl F4 (hb hby d13_35) rfl (fun T5 Y5 => ?_)
  have F6 := (own_F (v := .null) P6 K3 (own_nr (sl_23 hw) own_nin0))
  have F7 := (own_E P3 K3)
  refine own_putF Y5 hx (pc' := 41) hZ hown (host := "") (Or.inl (own_w hw 111 rfl)) Via.refl F6 F7 (Or.inl (own_w hw 67 rfl)) (own_w hw 2 rfl) (ty := (.object zs2)) (by decide) rfl rfl P4 (hb hby d13_38) rfl (fun T8 h8 Y8 K8 F8 => ?_)
  refine own_iloadN Y8 hx (pc' := 42) (hb hby d13_41) rfl rfl ?_
  refine own_iconst Y8 hx (pc' := 43) (x := (1 : Int32)) (hb hby d13_42) rfl (by decide) ?_
  refine own_icmpYes Y8 hx (pc' := 60) (hb hby d13_43) (by decide) (by decide) (by decide) ?_
  refine own_aloadN Y8 hx (pc' := 61) (hb hby d13_60) rfl rfl rfl ?_
  refine own_aloadN Y8 hx (pc' := 62) (hb hby d13_61) rfl rfl rfl ?_
  have F9 := (own_F (v := .null) (own_F (v := .null) P7 K3 (own_nr (sl_30 hw) own_nin0)) K8 (own_nr (sl_31 hw) own_nin0))
  refine own_getF Y8 hx (pc' := 65) (v := .null) hZ hown (host := "") (Or.inl (own_w hw 112 rfl)) Via.refl F9 (hb hby d13_62) rfl (fun T10 Y10 => ?_)
  have F11 := (own_F (v := .null) (own_F (v := .null) P1 K3 (own_nr (sl_32 hw) own_nin0)) K8 (own_nr (sl_33 hw) own_nin0))
  have F12 := (own_E F7 K8)
  refine own_putF Y10 hx (pc' := 68) hZ hown (host := "") (Or.inl (own_w hw 81 rfl)) Via.refl F11 F12 (Or.inl (own_w hw 82 rfl)) (own_w hw 2 rfl) (ty := (.object zs2)) (by decide) rfl rfl P4 (hb hby d13_65) rfl (fun T13 h13 Y13 K13 F13 => ?_)
  refine own_aloadN Y13 hx (pc' := 69) (hb hby d13_68) rfl rfl rfl ?_
  refine own_aloadN Y13 hx (pc' := 70) (hb hby d13_69) rfl rfl rfl ?_
  have F14 := (own_F (v := .null) (own_F (v := .null) (own_F (v := .null) P8 K3 (own_nr (sl_35 hw) own_nin0)) K8 (own_nr (sl_36 hw) own_nin0)) K13 (own_nr (sl_37 hw) own_nin0))
  refine own_getF Y13 hx (pc' := 73) (v := .null) hZ hown (host := "") (Or.inl (own_w hw 113 rfl)) Via.refl F14 (hb hby d13_70) rfl (fun T15 Y15 => ?_)
  have F16 := (own_F (v := .null) (own_F (v := .null) F4 K8 (own_nr (sl_38 hw) own_nin0)) K13 (own_nr (sl_18 hw) own_nin0))
  have F17 := (own_E F12 K13)
  refine own_putF Y15 hx (pc' := 76) hZ hown (host := "") (Or.inl (own_w hw 93 rfl)) Via.refl F16 F17 (Or.inl (own_w hw 94 rfl)) (own_w hw 2 rfl) (ty := (.object zs2)) (by decide) rfl rfl P4 (hb hby d13_73) rfl (fun T18 h18 Y18 K18 F18 => ?_)
  refine own_aloadN Y18 hx (pc' := 77) (hb hby d13_76) rfl rfl rfl ?_
  refine own_aload Y18 hx (pc' := 79) (hb hby d13_77) rfl rfl rfl ?_
  have F19 := (own_F (v := .null) (own_F (v := .null) F9 K13 (own_nr (sl_39 hw) own_nin0)) K18 (own_nr (sl_40 hw) own_nin0))
  have F20 := (own_E F17 K18)
  refine own_putF Y18 hx (pc' := 82) hZ hown (host := "") (Or.inl (own_w hw 112 rfl)) Via.refl F19 F20 (Or.inl (own_w hw 65 rfl)) (own_w hw 2 rfl) (ty := (.object zs2)) (by decide) rfl rfl P4 (hb hby d13_79) rfl (fun T21 h21 Y21 K21 F21 => ?_)
  refine own_aloadN Y21 hx (pc' := 83) (hb hby d13_82) rfl rfl rfl ?_
  refine own_aloadN Y21 hx (pc' := 84) (hb hby d13_83) rfl rfl rfl ?_
  have F22 := (own_F (v := .null) (own_F (v := .null) F14 K18 (own_nr (sl_41 hw) own_nin0)) K21 (own_nr (sl_4 hw) own_nin0))
  have F23 := (own_E F20 K21)
  refine own_putF Y21 hx (pc' := 87) hZ hown (host := "") (Or.inl (own_w hw 113 rfl)) Via.refl F22 F23 (Or.inl (own_w hw 69 rfl)) (own_w hw 2 rfl) (ty := (.object zs2)) (by decide) rfl rfl P4 (hb hby d13_84) rfl (fun T24 h24 Y24 K24 F24 => ?_)
  have KC25 : own_Kp h0 h24 [(a1, Jvm.RoadKit.slotOf Z zs0 "key2" zs1), (a1, Jvm.RoadKit.slotOf Z zs0 "value2" zs1), (a1, Jvm.RoadKit.slotOf Z zs0 "key1" zs1), (a1, Jvm.RoadKit.slotOf Z zs0 "value1" zs1), (a1, Jvm.RoadKit.slotOf Z zs0 "key0" zs1), (a1, Jvm.RoadKit.slotOf Z zs0 "value0" zs1)] := (((((((own_Kp.refl h0 [(a1, Jvm.RoadKit.slotOf Z zs0 "key2" zs1), (a1, Jvm.RoadKit.slotOf Z zs0 "value2" zs1), (a1, Jvm.RoadKit.slotOf Z zs0 "key1" zs1), (a1, Jvm.RoadKit.slotOf Z zs0 "value1" zs1), (a1, Jvm.RoadKit.slotOf Z zs0 "key0" zs1), (a1, Jvm.RoadKit.slotOf Z zs0 "value0" zs1)]).trans K3 (own_allS (Or.inl (List.mem_of_getElem? (i := 0) rfl)) own_all0)).trans K8 (own_allS (Or.inl (List.mem_of_getElem? (i := 1) rfl)) own_all0)).trans K13 (own_allS (Or.inl (List.mem_of_getElem? (i := 2) rfl)) own_all0)).trans K18 (own_allS (Or.inl (List.mem_of_getElem? (i := 3) rfl)) own_all0)).trans K21 (own_allS (Or.inl (List.mem_of_getElem? (i := 4) rfl)) own_all0)).trans K24 (own_allS (Or.inl (List.mem_of_getElem? (i := 5) rfl)) own_all0))
  have F26 := (own_F (v := .null) (own_F (v := .null) (own_F (v := .null) (own_F (v := .null) (own_F (v := .null) F3 K8 (own_nr (sl_42 hw) own_nin0)) K13 (own_nr (sl_17 hw) own_nin0)) K18 (own_nr (sl_43 hw) own_nin0)) K21 (own_nr (sl_44 hw) own_nin0)) K24 (own_nr (sl_45 hw) own_nin0))
  have F27 := (own_F (v := .null) (own_F (v := .null) (own_F (v := .null) (own_F (v := .null) F8 K13 (own_nr (sl_22 hw) own_nin0)) K18 (own_nr (sl_24 hw) own_nin0)) K21 (own_nr (sl_46 hw) own_nin0)) K24 (own_nr (sl_47 hw) own_nin0))
  have F28 := (own_F (v := .null) (own_F (v := .null) (own_F (v := .null) F13 K18 (own_nr (sl_48 hw) own_nin0)) K21 (own_nr (sl_49 hw) own_nin0)) K24 (own_nr (sl_50 hw) own_nin0))
  have F29 := (own_F (v := .null) (own_F (v := .null) F18 K21 (own_nr (sl_51 hw) own_nin0)) K24 (own_nr (sl_52 hw) own_nin0))
  have F30 := (own_F (v := (.ref a2)) F21 K24 (own_nr (sl_53 hw) own_nin0))
  exact own_ret0 Y24 hx hlk Bd.returns (hb hby d13_87) ⟨rfl, KC25, F26, F27, F28, F29, F30, F24⟩ (by decide) (by decide)
theorem pd__ILjava_lang_Object_Ljava_lang_Object__V : parseMethodDescriptor "(ILjava/lang/Object;Ljava/lang/Object;)V" = some ⟨[.int, (.object "java/lang/Object"), (.object "java/lang/Object")], none⟩ := by decide +kernel
theorem d12_7 : decode prog_25_method_2_code 7 = .ok (.aload_n 0, 1) := by decide +kernel
theorem d12_8 : decode prog_25_method_2_code 8 = .ok (.invokevirtual 13, 3) := by decide +kernel
theorem d15_0 : decode prog_25_method_21_code 0 = .ok (.aload_n 0, 1) := by decide +kernel
theorem d15_1 : decode prog_25_method_21_code 1 = .ok (.getfield 61, 3) := by decide +kernel
theorem sl_54 {Z : State} {a0 : Array Value} (hw : ∀ d ∈ tables_1, d.before a0 Z = true) : Jvm.RoadKit.slotOf Z zs0 "child0" zs16 ≠ Jvm.RoadKit.slotOf Z zs0 "key2" zs1 := slot_ne (C := zs0) (Or.inl (own_w hw 50 rfl)) (Or.inl (own_w hw 63 rfl)) (by decide) (t := (.object zs0)) (t' := (.object zs2)) (by decide) (by decide)
theorem sl_55 {Z : State} {a0 : Array Value} (hw : ∀ d ∈ tables_1, d.before a0 Z = true) : Jvm.RoadKit.slotOf Z zs0 "child0" zs16 ≠ Jvm.RoadKit.slotOf Z zs0 "value2" zs1 := slot_ne (C := zs0) (Or.inl (own_w hw 50 rfl)) (Or.inl (own_w hw 67 rfl)) (by decide) (t := (.object zs0)) (t' := (.object zs2)) (by decide) (by decide)
theorem sl_56 {Z : State} {a0 : Array Value} (hw : ∀ d ∈ tables_1, d.before a0 Z = true) : Jvm.RoadKit.slotOf Z zs0 "child0" zs16 ≠ Jvm.RoadKit.slotOf Z zs0 "key1" zs1 := slot_ne (C := zs0) (Or.inl (own_w hw 50 rfl)) (Or.inl (own_w hw 82 rfl)) (by decide) (t := (.object zs0)) (t' := (.object zs2)) (by decide) (by decide)
theorem sl_57 {Z : State} {a0 : Array Value} (hw : ∀ d ∈ tables_1, d.before a0 Z = true) : Jvm.RoadKit.slotOf Z zs0 "child0" zs16 ≠ Jvm.RoadKit.slotOf Z zs0 "value1" zs1 := slot_ne (C := zs0) (Or.inl (own_w hw 50 rfl)) (Or.inl (own_w hw 94 rfl)) (by decide) (t := (.object zs0)) (t' := (.object zs2)) (by decide) (by decide)
theorem d15_4 : decode prog_25_method_21_code 4 = .ok (.ifnonnull 7, 3) := by decide +kernel
theorem d15_11 : decode prog_25_method_21_code 11 = .ok (.iconst 0, 1) := by decide +kernel
theorem d15_12 : decode prog_25_method_21_code 12 = .ok (.ireturn, 1) := by decide +kernel
theorem ef_15_R (m : MethodId) (x0 : Addr) : entryFrame m #[(.ref x0)] 1 = mkF m 0 #[.val (.ref x0)] [] := by first | (simp [entryFrame, mkF, argsToLocals, Value.category]; done) | rfl
set_option maxRecDepth 65536 in
set_option maxHeartbeats 40000000 in
theorem rm15_11 (l : Launch) (Z : State) (a0 : Array Value) (hw : ∀ d ∈ tables_1, d.before a0 Z = true) (ws : List Jvm.Cond) (a1 : Addr) (a2 : Addr) (h0 : Heap) (n0 : Nat) (Z0 : n0 ≤ Array.size h0) (P0 : Fld Z h0 a1 zs0 "child0" zs16 (.ref a2)) :
    MetFree l (⟨zs0, "isLeaf", "()Z"⟩ : MethodName) (head1 (Jvm.Cond.code (⟨zs0, "isLeaf", "()Z"⟩ : MethodName) prog_25_method_21_code 1 (some .boolean) :: ws) ({ frames := 0, cells := 0, slots := 0, locals := 0 } : Room)) (fun a U => a = #[(.ref a1)] ∧ Z.Warmed39 U.vm ∧ U.heap = h0) (fun _ _ _ _ _ => True) (fun _ U o U' => ∃ v L, o = .returned v ∧ own_QQ n0 (own_Same (some (.int (0 : Int32))) h0) v U'.heap L ∧ FrameEnd U o U' L ({ frames := 0, cells := 0, slots := 0, locals := 0 } : Room).cells ({ frames := 0, cells := 0, slots := 0, locals := 0 } : Room).slots) := by
  refine MetFree.of_bodySF (plainFor_of_name pn_com_example_napkintree_napkintree_balancing_MultiwayTree_Node) hisR ?_
  intro p e s m args below meth c s₁ Bd hml0 hP hK
  obtain ⟨rfl, hZ, hh⟩ := hP
  have hx := Bd.exec
  have hby := Bd.bytes
  have hml : c.maxLocals = 1 := hml0
  have hown : s.vm.findClass zs0 = some m.cls := findClass_of_methodNamed Bd.named
  have hnm := (name_of_methodNamed Bd.named Bd.method).1
  have hlk : meth.locks = false := BodyLoose.notSynchronized Bd
  have Y0 : own_S p l e ({ frames := 0, cells := 0, slots := 0, locals := 0 } : Room) s m #[(.ref a1)] below meth c n0 s₁ h0 0 0 := ⟨[], Stand.of_body Bd, Fr.nil n0, by rw [← hh, Bd.state]; rfl, Z0⟩
  refine (?_ : own_Fin p e below _ _)
  refine own_st (fun t k => castTop (ef_15_R m a1) k) ?_
  refine own_aloadN Y0 hx (pc' := 1) (hb hby d15_0) rfl rfl rfl ?_
  refine own_getF Y0 hx (pc' := 4) (v := (.ref a2)) hZ hown (host := "") (Or.inl (own_w hw 61 rfl)) Via.refl P0 (hb hby d15_1) rfl (fun T1 Y1 => ?_)
  refine own_ifnonnullYes Y1 hx (pc' := 11) (hb hby d15_4) (by decide) (by decide) ?_
  refine own_iconst Y1 hx (pc' := 12) (x := (0 : Int32)) (hb hby d15_11) rfl (by decide) ?_
  exact own_retN Y1 hx hlk Bd.returns rfl (by simp) (hb hby d15_12) ⟨rfl, rfl⟩ (by decide) (by decide)
theorem pd___Z : parseMethodDescriptor "()Z" = some ⟨[], some .boolean⟩ := by decide +kernel
theorem d12_11 : decode prog_25_method_2_code 11 = .ok (.ifCond .ne 11, 3) := by decide +kernel
theorem d12_14 : decode prog_25_method_2_code 14 = .ok (.aload_n 0, 1) := by decide +kernel
theorem d12_15 : decode prog_25_method_2_code 15 = .ok (.iload 4, 2) := by decide +kernel
theorem d12_17 : decode prog_25_method_2_code 17 = .ok (.aload 5, 2) := by decide +kernel
theorem d12_19 : decode prog_25_method_2_code 19 = .ok (.invokevirtual 17, 3) := by decide +kernel
theorem d16_0 : decode prog_25_method_6_code 0 = .ok (.iload_n 1, 1) := by decide +kernel
theorem d16_1 : decode prog_25_method_6_code 1 = .ok (.iconst 3, 1) := by decide +kernel
theorem d16_2 : decode prog_25_method_6_code 2 = .ok (.if_icmp .ne 11, 3) := by decide +kernel
theorem d16_13 : decode prog_25_method_6_code 13 = .ok (.aload_n 0, 1) := by decide +kernel
theorem d16_14 : decode prog_25_method_6_code 14 = .ok (.aload_n 0, 1) := by decide +kernel
theorem d16_15 : decode prog_25_method_6_code 15 = .ok (.getfield 55, 3) := by decide +kernel
theorem sl_58 {Z : State} {a0 : Array Value} (hw : ∀ d ∈ tables_1, d.before a0 Z = true) : Jvm.RoadKit.slotOf Z zs0 "child2" zs16 ≠ Jvm.RoadKit.slotOf Z zs0 "child0" zs16 := slot_ne (C := zs0) (Or.inl (own_w hw 71 rfl)) (Or.inl (own_w hw 50 rfl)) (by decide) (t := (.object zs0)) (t' := (.object zs0)) (by decide) (by decide)
theorem sl_59 {Z : State} {a0 : Array Value} (hw : ∀ d ∈ tables_1, d.before a0 Z = true) : Jvm.RoadKit.slotOf Z zs0 "child2" zs16 ≠ Jvm.RoadKit.slotOf Z zs0 "key2" zs1 := slot_ne (C := zs0) (Or.inl (own_w hw 71 rfl)) (Or.inl (own_w hw 63 rfl)) (by decide) (t := (.object zs0)) (t' := (.object zs2)) (by decide) (by decide)
theorem sl_60 {Z : State} {a0 : Array Value} (hw : ∀ d ∈ tables_1, d.before a0 Z = true) : Jvm.RoadKit.slotOf Z zs0 "child2" zs16 ≠ Jvm.RoadKit.slotOf Z zs0 "value2" zs1 := slot_ne (C := zs0) (Or.inl (own_w hw 71 rfl)) (Or.inl (own_w hw 67 rfl)) (by decide) (t := (.object zs0)) (t' := (.object zs2)) (by decide) (by decide)
theorem sl_61 {Z : State} {a0 : Array Value} (hw : ∀ d ∈ tables_1, d.before a0 Z = true) : Jvm.RoadKit.slotOf Z zs0 "child2" zs16 ≠ Jvm.RoadKit.slotOf Z zs0 "key1" zs1 := slot_ne (C := zs0) (Or.inl (own_w hw 71 rfl)) (Or.inl (own_w hw 82 rfl)) (by decide) (t := (.object zs0)) (t' := (.object zs2)) (by decide) (by decide)
theorem sl_62 {Z : State} {a0 : Array Value} (hw : ∀ d ∈ tables_1, d.before a0 Z = true) : Jvm.RoadKit.slotOf Z zs0 "child2" zs16 ≠ Jvm.RoadKit.slotOf Z zs0 "value1" zs1 := slot_ne (C := zs0) (Or.inl (own_w hw 71 rfl)) (Or.inl (own_w hw 94 rfl)) (by decide) (t := (.object zs0)) (t' := (.object zs2)) (by decide) (by decide)
theorem sl_63 {Z : State} {a0 : Array Value} (hw : ∀ d ∈ tables_1, d.before a0 Z = true) : Jvm.RoadKit.slotOf Z zs0 "child2" zs16 ≠ Jvm.RoadKit.slotOf Z zs0 "key0" zs1 := slot_ne (C := zs0) (Or.inl (own_w hw 71 rfl)) (Or.inl (own_w hw 65 rfl)) (by decide) (t := (.object zs0)) (t' := (.object zs2)) (by decide) (by decide)
theorem sl_64 {Z : State} {a0 : Array Value} (hw : ∀ d ∈ tables_1, d.before a0 Z = true) : Jvm.RoadKit.slotOf Z zs0 "child2" zs16 ≠ Jvm.RoadKit.slotOf Z zs0 "value0" zs1 := slot_ne (C := zs0) (Or.inl (own_w hw 71 rfl)) (Or.inl (own_w hw 69 rfl)) (by decide) (t := (.object zs0)) (t' := (.object zs2)) (by decide) (by decide)
theorem d16_18 : decode prog_25_method_6_code 18 = .ok (.putfield 51, 3) := by decide +kernel
theorem sl_65 {Z : State} {a0 : Array Value} (hw : ∀ d ∈ tables_1, d.before a0 Z = true) : Jvm.RoadKit.slotOf Z zs0 "child3" zs16 ≠ Jvm.RoadKit.slotOf Z zs0 "child0" zs16 := slot_ne (C := zs0) (Or.inl (own_w hw 73 rfl)) (Or.inl (own_w hw 50 rfl)) (by decide) (t := (.object zs0)) (t' := (.object zs0)) (by decide) (by decide)
theorem sl_66 {Z : State} {a0 : Array Value} (hw : ∀ d ∈ tables_1, d.before a0 Z = true) : Jvm.RoadKit.slotOf Z zs0 "child3" zs16 ≠ Jvm.RoadKit.slotOf Z zs0 "key2" zs1 := slot_ne (C := zs0) (Or.inl (own_w hw 73 rfl)) (Or.inl (own_w hw 63 rfl)) (by decide) (t := (.object zs0)) (t' := (.object zs2)) (by decide) (by decide)
theorem sl_67 {Z : State} {a0 : Array Value} (hw : ∀ d ∈ tables_1, d.before a0 Z = true) : Jvm.RoadKit.slotOf Z zs0 "child3" zs16 ≠ Jvm.RoadKit.slotOf Z zs0 "value2" zs1 := slot_ne (C := zs0) (Or.inl (own_w hw 73 rfl)) (Or.inl (own_w hw 67 rfl)) (by decide) (t := (.object zs0)) (t' := (.object zs2)) (by decide) (by decide)
theorem sl_68 {Z : State} {a0 : Array Value} (hw : ∀ d ∈ tables_1, d.before a0 Z = true) : Jvm.RoadKit.slotOf Z zs0 "child3" zs16 ≠ Jvm.RoadKit.slotOf Z zs0 "key1" zs1 := slot_ne (C := zs0) (Or.inl (own_w hw 73 rfl)) (Or.inl (own_w hw 82 rfl)) (by decide) (t := (.object zs0)) (t' := (.object zs2)) (by decide) (by decide)
theorem sl_69 {Z : State} {a0 : Array Value} (hw : ∀ d ∈ tables_1, d.before a0 Z = true) : Jvm.RoadKit.slotOf Z zs0 "child3" zs16 ≠ Jvm.RoadKit.slotOf Z zs0 "value1" zs1 := slot_ne (C := zs0) (Or.inl (own_w hw 73 rfl)) (Or.inl (own_w hw 94 rfl)) (by decide) (t := (.object zs0)) (t' := (.object zs2)) (by decide) (by decide)
theorem sl_70 {Z : State} {a0 : Array Value} (hw : ∀ d ∈ tables_1, d.before a0 Z = true) : Jvm.RoadKit.slotOf Z zs0 "child3" zs16 ≠ Jvm.RoadKit.slotOf Z zs0 "key0" zs1 := slot_ne (C := zs0) (Or.inl (own_w hw 73 rfl)) (Or.inl (own_w hw 65 rfl)) (by decide) (t := (.object zs0)) (t' := (.object zs2)) (by decide) (by decide)
theorem sl_71 {Z : State} {a0 : Array Value} (hw : ∀ d ∈ tables_1, d.before a0 Z = true) : Jvm.RoadKit.slotOf Z zs0 "child3" zs16 ≠ Jvm.RoadKit.slotOf Z zs0 "value0" zs1 := slot_ne (C := zs0) (Or.inl (own_w hw 73 rfl)) (Or.inl (own_w hw 69 rfl)) (by decide) (t := (.object zs0)) (t' := (.object zs2)) (by decide) (by decide)
theorem d16_21 : decode prog_25_method_6_code 21 = .ok (.iload_n 1, 1) := by decide +kernel
theorem d16_22 : decode prog_25_method_6_code 22 = .ok (.iconst 2, 1) := by decide +kernel
theorem d16_23 : decode prog_25_method_6_code 23 = .ok (.if_icmp .ne 11, 3) := by decide +kernel
theorem d16_34 : decode prog_25_method_6_code 34 = .ok (.aload_n 0, 1) := by decide +kernel
theorem d16_35 : decode prog_25_method_6_code 35 = .ok (.aload_n 0, 1) := by decide +kernel
theorem d16_36 : decode prog_25_method_6_code 36 = .ok (.getfield 58, 3) := by decide +kernel
theorem sl_72 {Z : State} {a0 : Array Value} (hw : ∀ d ∈ tables_1, d.before a0 Z = true) : Jvm.RoadKit.slotOf Z zs0 "child1" zs16 ≠ Jvm.RoadKit.slotOf Z zs0 "key2" zs1 := slot_ne (C := zs0) (Or.inl (own_w hw 75 rfl)) (Or.inl (own_w hw 63 rfl)) (by decide) (t := (.object zs0)) (t' := (.object zs2)) (by decide) (by decide)
theorem sl_73 {Z : State} {a0 : Array Value} (hw : ∀ d ∈ tables_1, d.before a0 Z = true) : Jvm.RoadKit.slotOf Z zs0 "child1" zs16 ≠ Jvm.RoadKit.slotOf Z zs0 "value2" zs1 := slot_ne (C := zs0) (Or.inl (own_w hw 75 rfl)) (Or.inl (own_w hw 67 rfl)) (by decide) (t := (.object zs0)) (t' := (.object zs2)) (by decide) (by decide)
theorem sl_74 {Z : State} {a0 : Array Value} (hw : ∀ d ∈ tables_1, d.before a0 Z = true) : Jvm.RoadKit.slotOf Z zs0 "child1" zs16 ≠ Jvm.RoadKit.slotOf Z zs0 "key1" zs1 := slot_ne (C := zs0) (Or.inl (own_w hw 75 rfl)) (Or.inl (own_w hw 82 rfl)) (by decide) (t := (.object zs0)) (t' := (.object zs2)) (by decide) (by decide)
theorem sl_75 {Z : State} {a0 : Array Value} (hw : ∀ d ∈ tables_1, d.before a0 Z = true) : Jvm.RoadKit.slotOf Z zs0 "child1" zs16 ≠ Jvm.RoadKit.slotOf Z zs0 "value1" zs1 := slot_ne (C := zs0) (Or.inl (own_w hw 75 rfl)) (Or.inl (own_w hw 94 rfl)) (by decide) (t := (.object zs0)) (t' := (.object zs2)) (by decide) (by decide)
theorem sl_76 {Z : State} {a0 : Array Value} (hw : ∀ d ∈ tables_1, d.before a0 Z = true) : Jvm.RoadKit.slotOf Z zs0 "child1" zs16 ≠ Jvm.RoadKit.slotOf Z zs0 "child3" zs16 := slot_ne (C := zs0) (Or.inl (own_w hw 75 rfl)) (Or.inl (own_w hw 73 rfl)) (by decide) (t := (.object zs0)) (t' := (.object zs0)) (by decide) (by decide)
theorem d16_39 : decode prog_25_method_6_code 39 = .ok (.putfield 55, 3) := by decide +kernel
theorem sl_77 {Z : State} {a0 : Array Value} (hw : ∀ d ∈ tables_1, d.before a0 Z = true) : Jvm.RoadKit.slotOf Z zs0 "child2" zs16 ≠ Jvm.RoadKit.slotOf Z zs0 "child3" zs16 := slot_ne (C := zs0) (Or.inl (own_w hw 71 rfl)) (Or.inl (own_w hw 73 rfl)) (by decide) (t := (.object zs0)) (t' := (.object zs0)) (by decide) (by decide)
theorem d16_42 : decode prog_25_method_6_code 42 = .ok (.iload_n 1, 1) := by decide +kernel
theorem d16_43 : decode prog_25_method_6_code 43 = .ok (.iconst 1, 1) := by decide +kernel
theorem d16_44 : decode prog_25_method_6_code 44 = .ok (.if_icmp .ne 11, 3) := by decide +kernel
theorem d16_47 : decode prog_25_method_6_code 47 = .ok (.aload_n 0, 1) := by decide +kernel
theorem d16_48 : decode prog_25_method_6_code 48 = .ok (.aload_n 2, 1) := by decide +kernel
theorem d16_49 : decode prog_25_method_6_code 49 = .ok (.putfield 58, 3) := by decide +kernel
theorem sl_78 {Z : State} {a0 : Array Value} (hw : ∀ d ∈ tables_1, d.before a0 Z = true) : Jvm.RoadKit.slotOf Z zs0 "child1" zs16 ≠ Jvm.RoadKit.slotOf Z zs0 "child2" zs16 := slot_ne (C := zs0) (Or.inl (own_w hw 75 rfl)) (Or.inl (own_w hw 71 rfl)) (by decide) (t := (.object zs0)) (t' := (.object zs0)) (by decide) (by decide)
theorem d16_52 : decode prog_25_method_6_code 52 = .ok (.goto 16, 3) := by decide +kernel
theorem d16_68 : decode prog_25_method_6_code 68 = .ok (.return_, 1) := by decide +kernel
theorem sl_79 {Z : State} {a0 : Array Value} (hw : ∀ d ∈ tables_1, d.before a0 Z = true) : Jvm.RoadKit.slotOf Z zs0 "child3" zs16 ≠ Jvm.RoadKit.slotOf Z zs0 "child1" zs16 := slot_ne (C := zs0) (Or.inl (own_w hw 73 rfl)) (Or.inl (own_w hw 75 rfl)) (by decide) (t := (.object zs0)) (t' := (.object zs0)) (by decide) (by decide)
theorem sl_80 {Z : State} {a0 : Array Value} (hw : ∀ d ∈ tables_1, d.before a0 Z = true) : Jvm.RoadKit.slotOf Z zs0 "child2" zs16 ≠ Jvm.RoadKit.slotOf Z zs0 "child1" zs16 := slot_ne (C := zs0) (Or.inl (own_w hw 71 rfl)) (Or.inl (own_w hw 75 rfl)) (by decide) (t := (.object zs0)) (t' := (.object zs0)) (by decide) (by decide)
theorem ef_16_RIR (m : MethodId) (x0 : Addr) (x1 : Int32) (x2 : Addr) : entryFrame m #[(.ref x0), (.int x1), (.ref x2)] 3 = mkF m 0 #[.val (.ref x0), .val (.int x1), .val (.ref x2)] [] := by first | (simp [entryFrame, mkF, argsToLocals, Value.category]; done) | rfl
def P16_12 (Z : State) (a1 : Addr) (a2 : Addr) (h0 : Heap) (h : Heap) : Prop := own_Kp h0 h [(a1, Jvm.RoadKit.slotOf Z zs0 "child3" zs16), (a1, Jvm.RoadKit.slotOf Z zs0 "child2" zs16), (a1, Jvm.RoadKit.slotOf Z zs0 "child1" zs16)] ∧ Fld Z h a1 zs0 "child3" zs16 .null ∧ Fld Z h a1 zs0 "child2" zs16 .null ∧ Fld Z h a1 zs0 "child1" zs16 (.ref a2)
theorem P16_12_sz {Z : State} {a1 : Addr} {a2 : Addr} {h0 : Heap} : ∀ v h', (own_R none (P16_12 Z a1 a2 h0)) v h' → Array.size h0 ≤ Array.size h' := by
  intro v h' q
  obtain ⟨-, K, -⟩ := q
  exact K.1
set_option maxRecDepth 65536 in
set_option maxHeartbeats 40000000 in
theorem rm16_12 (l : Launch) (Z : State) (a0 : Array Value) (hw : ∀ d ∈ tables_1, d.before a0 Z = true) (ws : List Jvm.Cond) (a1 : Addr) (a2 : Addr) (h0 : Heap) (n0 : Nat) (Z0 : n0 ≤ Array.size h0) (P0 : Fld Z h0 a1 zs0 "child2" zs16 .null) (P1 : Fld Z h0 a1 zs0 "child3" zs16 .null) (P2 : Exa Z h0 a1 zs0) (P3 : n0 ≤ a1) (P4 : Fld Z h0 a1 zs0 "child1" zs16 .null) :
    MetFree l (⟨zs0, "insertChild", zs21⟩ : MethodName) (head1 (Jvm.Cond.code (⟨zs0, "insertChild", zs21⟩ : MethodName) prog_25_method_6_code 3 none :: ws) ({ frames := 0, cells := 0, slots := 0, locals := 0 } : Room)) (fun a U => a = #[(.ref a1), (.int (1 : Int32)), (.ref a2)] ∧ Z.Warmed39 U.vm ∧ U.heap = h0) (fun _ _ _ _ _ => True) (fun _ U o U' => ∃ v L, o = .returned v ∧ own_QQ n0 (own_R none (P16_12 Z a1 a2 h0)) v U'.heap L ∧ FrameEnd U o U' L ({ frames := 0, cells := 0, slots := 0, locals := 0 } : Room).cells ({ frames := 0, cells := 0, slots := 0, locals := 0 } : Room).slots) := by
  refine MetFree.of_bodySF (plainFor_of_name pn_com_example_napkintree_napkintree_balancing_MultiwayTree_Node) hisR ?_
  intro p e s m args below meth c s₁ Bd hml0 hP hK
  obtain ⟨rfl, hZ, hh⟩ := hP
  have hx := Bd.exec
  have hby := Bd.bytes
  have hml : c.maxLocals = 3 := hml0
  have hown : s.vm.findClass zs0 = some m.cls := findClass_of_methodNamed Bd.named
  have hnm := (name_of_methodNamed Bd.named Bd.method).1
  have hlk : meth.locks = false := BodyLoose.notSynchronized Bd
  have Y0 : own_S p l e ({ frames := 0, cells := 0, slots := 0, locals := 0 } : Room) s m #[(.ref a1), (.int (1 : Int32)), (.ref a2)] below meth c n0 s₁ h0 0 0 := ⟨[], Stand.of_body Bd, Fr.nil n0, by rw [← hh, Bd.state]; rfl, Z0⟩
  refine (?_ : own_Fin p e below _ _)
  refine own_st (fun t k => castTop (ef_16_RIR m a1 (1 : Int32) a2) k) ?_
  refine own_iloadN Y0 hx (pc' := 1) (hb hby d16_0) rfl rfl ?_
  refine own_iconst Y0 hx (pc' := 2) (x := (3 : Int32)) (hb hby d16_1) rfl (by decide) ?_
  refine own_icmpYes Y0 hx (pc' := 13) (hb hby d16_2) (by decide) (by decide) (by decide) ?_
  refine own_aloadN Y0 hx (pc' := 14) (hb hby d16_13) rfl rfl rfl ?_
  refine own_aloadN Y0 hx (pc' := 15) (hb hby d16_14) rfl rfl rfl ?_
  refine own_getF Y0 hx (pc' := 18) (v := .null) hZ hown (host := "") (Or.inl (own_w hw 123 rfl)) Via.refl P0 (hb hby d16_15) rfl (fun T1 Y1 => ?_)
  refine own_putF Y1 hx (pc' := 21) hZ hown (host := "") (Or.inl (own_w hw 124 rfl)) Via.refl P1 P2 (Or.inl (own_w hw 73 rfl)) (own_w hw 2 rfl) (ty := (.object zs0)) (by decide) rfl rfl P3 (hb hby d16_18) rfl (fun T2 h2 Y2 K2 F2 => ?_)
  refine own_iloadN Y2 hx (pc' := 22) (hb hby d16_21) rfl rfl ?_
  refine own_iconst Y2 hx (pc' := 23) (x := (2 : Int32)) (hb hby d16_22) rfl (by decide) ?_
  refine own_icmpYes Y2 hx (pc' := 34) (hb hby d16_23) (by decide) (by decide) (by decide) ?_
  refine own_aloadN Y2 hx (pc' := 35) (hb hby d16_34) rfl rfl rfl ?_
  refine own_aloadN Y2 hx (pc' := 36) (hb hby d16_35) rfl rfl rfl ?_
  have F3 := (own_F (v := .null) P4 K2 (own_nr (sl_76 hw) own_nin0))
  refine own_getF Y2 hx (pc' := 39) (v := .null) hZ hown (host := "") (Or.inl (own_w hw 125 rfl)) Via.refl F3 (hb hby d16_36) rfl (fun T4 Y4 => ?_)
  have F5 := (own_F (v := .null) P0 K2 (own_nr (sl_77 hw) own_nin0))
  have F6 := (own_E P2 K2)
  refine own_putF Y4 hx (pc' := 42) hZ hown (host := "") (Or.inl (own_w hw 123 rfl)) Via.refl F5 F6 (Or.inl (own_w hw 71 rfl)) (own_w hw 2 rfl) (ty := (.object zs0)) (by decide) rfl rfl P3 (hb hby d16_39) rfl (fun T7 h7 Y7 K7 F7 => ?_)
  refine own_iloadN Y7 hx (pc' := 43) (hb hby d16_42) rfl rfl ?_
  refine own_iconst Y7 hx (pc' := 44) (x := (1 : Int32)) (hb hby d16_43) rfl (by decide) ?_
  refine own_icmpNo Y7 hx (pc' := 47) (hb hby d16_44) rfl (by decide) ?_
  refine own_aloadN Y7 hx (pc' := 48) (hb hby d16_47) rfl rfl rfl ?_
  refine own_aloadN Y7 hx (pc' := 49) (hb hby d16_48) rfl rfl rfl ?_
  have F8 := (own_F (v := .null) F3 K7 (own_nr (sl_78 hw) own_nin0))
  have F9 := (own_E F6 K7)
  refine own_putF Y7 hx (pc' := 52) hZ hown (host := "") (Or.inl (own_w hw 125 rfl)) Via.refl F8 F9 (Or.inl (own_w hw 75 rfl)) (own_w hw 2 rfl) (ty := (.object zs0)) (by decide) rfl rfl P3 (hb hby d16_49) rfl (fun T10 h10 Y10 K10 F10 => ?_)
  refine own_goto Y10 hx (pc' := 68) (hb hby d16_52) (by decide) (by decide) ?_
  have KC11 : own_Kp h0 h10 [(a1, Jvm.RoadKit.slotOf Z zs0 "child3" zs16), (a1, Jvm.RoadKit.slotOf Z zs0 "child2" zs16), (a1, Jvm.RoadKit.slotOf Z zs0 "child1" zs16)] := ((((own_Kp.refl h0 [(a1, Jvm.RoadKit.slotOf Z zs0 "child3" zs16), (a1, Jvm.RoadKit.slotOf Z zs0 "child2" zs16), (a1, Jvm.RoadKit.slotOf Z zs0 "child1" zs16)]).trans K2 (own_allS (Or.inl (List.mem_of_getElem? (i := 0) rfl)) own_all0)).trans K7 (own_allS (Or.inl (List.mem_of_getElem? (i := 1) rfl)) own_all0)).trans K10 (own_allS (Or.inl (List.mem_of_getElem? (i := 2) rfl)) own_all0))
  have F12 := (own_F (v := .null) (own_F (v := .null) F2 K7 (own_nr (sl_10 hw) own_nin0)) K10 (own_nr (sl_79 hw) own_nin0))
  have F13 := (own_F (v := .null) F7 K10 (own_nr (sl_80 hw) own_nin0))
  exact own_ret0 Y10 hx hlk Bd.returns (hb hby d16_68) ⟨rfl, KC11, F12, F13, F10⟩ (by decide) (by decide)
theorem pd__ILcom_example_napkintree_napkintree_balancing_MultiwayTree_Node__V : parseMethodDescriptor "(ILcom/example/napkintree/napkintree/balancing/MultiwayTree$Node;)V" = some ⟨[.int, (.object "com/example/napkintree/napkintree/balancing/MultiwayTree$Node")], none⟩ := by decide +kernel
theorem d12_22 : decode prog_25_method_2_code 22 = .ok (.return_, 1) := by decide +kernel
theorem sl_81 {Z : State} {a0 : Array Value} (hw : ∀ d ∈ tables_1, d.before a0 Z = true) : Jvm.RoadKit.slotOf Z zs0 "key2" zs1 ≠ Jvm.RoadKit.slotOf Z zs0 "child1" zs16 := slot_ne (C := zs0) (Or.inl (own_w hw 63 rfl)) (Or.inl (own_w hw 75 rfl)) (by decide) (t := (.object zs2)) (t' := (.object zs0)) (by decide) (by decide)
theorem sl_82 {Z : State} {a0 : Array Value} (hw : ∀ d ∈ tables_1, d.before a0 Z = true) : Jvm.RoadKit.slotOf Z zs0 "value2" zs1 ≠ Jvm.RoadKit.slotOf Z zs0 "child1" zs16 := slot_ne (C := zs0) (Or.inl (own_w hw 67 rfl)) (Or.inl (own_w hw 75 rfl)) (by decide) (t := (.object zs2)) (t' := (.object zs0)) (by decide) (by decide)
theorem sl_83 {Z : State} {a0 : Array Value} (hw : ∀ d ∈ tables_1, d.before a0 Z = true) : Jvm.RoadKit.slotOf Z zs0 "key1" zs1 ≠ Jvm.RoadKit.slotOf Z zs0 "child1" zs16 := slot_ne (C := zs0) (Or.inl (own_w hw 82 rfl)) (Or.inl (own_w hw 75 rfl)) (by decide) (t := (.object zs2)) (t' := (.object zs0)) (by decide) (by decide)
theorem sl_84 {Z : State} {a0 : Array Value} (hw : ∀ d ∈ tables_1, d.before a0 Z = true) : Jvm.RoadKit.slotOf Z zs0 "value1" zs1 ≠ Jvm.RoadKit.slotOf Z zs0 "child1" zs16 := slot_ne (C := zs0) (Or.inl (own_w hw 94 rfl)) (Or.inl (own_w hw 75 rfl)) (by decide) (t := (.object zs2)) (t' := (.object zs0)) (by decide) (by decide)
theorem sl_85 {Z : State} {a0 : Array Value} (hw : ∀ d ∈ tables_1, d.before a0 Z = true) : Jvm.RoadKit.slotOf Z zs0 "key0" zs1 ≠ Jvm.RoadKit.slotOf Z zs0 "child3" zs16 := slot_ne (C := zs0) (Or.inl (own_w hw 65 rfl)) (Or.inl (own_w hw 73 rfl)) (by decide) (t := (.object zs2)) (t' := (.object zs0)) (by decide) (by decide)
theorem sl_86 {Z : State} {a0 : Array Value} (hw : ∀ d ∈ tables_1, d.before a0 Z = true) : Jvm.RoadKit.slotOf Z zs0 "key0" zs1 ≠ Jvm.RoadKit.slotOf Z zs0 "child2" zs16 := slot_ne (C := zs0) (Or.inl (own_w hw 65 rfl)) (Or.inl (own_w hw 71 rfl)) (by decide) (t := (.object zs2)) (t' := (.object zs0)) (by decide) (by decide)
theorem sl_87 {Z : State} {a0 : Array Value} (hw : ∀ d ∈ tables_1, d.before a0 Z = true) : Jvm.RoadKit.slotOf Z zs0 "key0" zs1 ≠ Jvm.RoadKit.slotOf Z zs0 "child1" zs16 := slot_ne (C := zs0) (Or.inl (own_w hw 65 rfl)) (Or.inl (own_w hw 75 rfl)) (by decide) (t := (.object zs2)) (t' := (.object zs0)) (by decide) (by decide)
theorem sl_88 {Z : State} {a0 : Array Value} (hw : ∀ d ∈ tables_1, d.before a0 Z = true) : Jvm.RoadKit.slotOf Z zs0 "value0" zs1 ≠ Jvm.RoadKit.slotOf Z zs0 "child3" zs16 := slot_ne (C := zs0) (Or.inl (own_w hw 69 rfl)) (Or.inl (own_w hw 73 rfl)) (by decide) (t := (.object zs2)) (t' := (.object zs0)) (by decide) (by decide)
theorem sl_89 {Z : State} {a0 : Array Value} (hw : ∀ d ∈ tables_1, d.before a0 Z = true) : Jvm.RoadKit.slotOf Z zs0 "value0" zs1 ≠ Jvm.RoadKit.slotOf Z zs0 "child2" zs16 := slot_ne (C := zs0) (Or.inl (own_w hw 69 rfl)) (Or.inl (own_w hw 71 rfl)) (by decide) (t := (.object zs2)) (t' := (.object zs0)) (by decide) (by decide)
theorem sl_90 {Z : State} {a0 : Array Value} (hw : ∀ d ∈ tables_1, d.before a0 Z = true) : Jvm.RoadKit.slotOf Z zs0 "value0" zs1 ≠ Jvm.RoadKit.slotOf Z zs0 "child1" zs16 := slot_ne (C := zs0) (Or.inl (own_w hw 69 rfl)) (Or.inl (own_w hw 75 rfl)) (by decide) (t := (.object zs2)) (t' := (.object zs0)) (by decide) (by decide)
theorem ef_12_RINNIR (m : MethodId) (x0 : Addr) (x1 : Int32) (x4 : Int32) (x5 : Addr) : entryFrame m #[(.ref x0), (.int x1), .null, .null, (.int x4), (.ref x5)] 6 = mkF m 0 #[.val (.ref x0), .val (.int x1), .val .null, .val .null, .val (.int x4), .val (.ref x5)] [] := by first | (simp [entryFrame, mkF, argsToLocals, Value.category]; done) | rfl
def P12_13 (Z : State) (a1 : Addr) (a2 : Addr) (a3 : Addr) (a4 : Addr) (h0 : Heap) (h : Heap) : Prop := own_Kp h0 h [(a1, Jvm.RoadKit.slotOf Z zs0 "key2" zs1), (a1, Jvm.RoadKit.slotOf Z zs0 "value2" zs1), (a1, Jvm.RoadKit.slotOf Z zs0 "key1" zs1), (a1, Jvm.RoadKit.slotOf Z zs0 "value1" zs1), (a1, Jvm.RoadKit.slotOf Z zs0 "key0" zs1), (a1, Jvm.RoadKit.slotOf Z zs0 "value0" zs1), (a1, Jvm.RoadKit.slotOf Z zs0 "child3" zs16), (a1, Jvm.RoadKit.slotOf Z zs0 "child2" zs16), (a1, Jvm.RoadKit.slotOf Z zs0 "child1" zs16)] ∧ Fld Z h a1 zs0 "key2" zs1 .null ∧ Fld Z h a1 zs0 "value2" zs1 .null ∧ Fld Z h a1 zs0 "key1" zs1 .null ∧ Fld Z h a1 zs0 "value1" zs1 .null ∧ Fld Z h a1 zs0 "key0" zs1 (.ref a3) ∧ Fld Z h a1 zs0 "value0" zs1 .null ∧ Fld Z h a1 zs0 "child3" zs16 .null ∧ Fld Z h a1 zs0 "child2" zs16 .null ∧ Fld Z h a1 zs0 "child1" zs16 (.ref a2)
theorem P12_13_sz {Z : State} {a1 : Addr} {a2 : Addr} {a3 : Addr} {a4 : Addr} {h0 : Heap} : ∀ v h', (own_R none (P12_13 Z a1 a2 a3 a4 h0)) v h' → Array.size h0 ≤ Array.size h' := by
  intro v h' q
  obtain ⟨-, K, -⟩ := q
  exact K.1
set_option maxRecDepth 65536 in
set_option maxHeartbeats 40000000 in
theorem rm12_13 (l : Launch) (Z : State) (a0 : Array Value) (hw : ∀ d ∈ tables_1, d.before a0 Z = true) (ws : List Jvm.Cond) (a1 : Addr) (a2 : Addr) (a3 : Addr) (a4 : Addr) (h0 : Heap) (n0 : Nat) (Z0 : n0 ≤ Array.size h0) (P0 : Exa Z h0 a1 zs0) (P1 : Sta Z h0 zs0 "NULL_KEY" zs1 (.ref a3)) (P2 : Fld Z h0 a1 zs0 "key1" zs1 .null) (P3 : Fld Z h0 a1 zs0 "key2" zs1 .null) (P4 : n0 ≤ a1) (P5 : Fld Z h0 a1 zs0 "value1" zs1 .null) (P6 : Fld Z h0 a1 zs0 "value2" zs1 .null) (P7 : Fld Z h0 a1 zs0 "key0" zs1 .null) (P8 : Fld Z h0 a1 zs0 "value0" zs1 .null) (P9 : Fld Z h0 a1 zs0 "child0" zs16 (.ref a4)) (P10 : Fld Z h0 a1 zs0 "child2" zs16 .null) (P11 : Fld Z h0 a1 zs0 "child3" zs16 .null) (P12 : Fld Z h0 a1 zs0 "child1" zs16 .null) :
    MetFree l (⟨zs0, "insert", zs22⟩ : MethodName) (head1 (Jvm.Cond.code (⟨zs0, "insert", zs22⟩ : MethodName) prog_25_method_2_code 6 none :: ws) ({ frames := 2, cells := 0, slots := 0, locals := 28 } : Room)) (fun a U => a = #[(.ref a1), (.int (0 : Int32)), .null, .null, (.int (1 : Int32)), (.ref a2)] ∧ Z.Warmed39 U.vm ∧ U.heap = h0) (fun _ _ _ _ _ => True) (fun _ U o U' => ∃ v L, o = .returned v ∧ own_QQ n0 (own_R none (P12_13 Z a1 a2 a3 a4 h0)) v U'.heap L ∧ FrameEnd U o U' L ({ frames := 2, cells := 0, slots := 0, locals := 28 } : Room).cells ({ frames := 2, cells := 0, slots := 0, locals := 28 } : Room).slots) := by
  refine MetFree.of_bodySF (plainFor_of_name pn_com_example_napkintree_napkintree_balancing_MultiwayTree_Node) hisR ?_
  intro p e s m args below meth c s₁ Bd hml0 hP hK
  obtain ⟨rfl, hZ, hh⟩ := hP
  have hx := Bd.exec
  have hby := Bd.bytes
  have hml : c.maxLocals = 6 := hml0
  have hown : s.vm.findClass zs0 = some m.cls := findClass_of_methodNamed Bd.named
  have hnm := (name_of_methodNamed Bd.named Bd.method).1
  have hlk : meth.locks = false := BodyLoose.notSynchronized Bd
  have Y0 : own_S p l e ({ frames := 2, cells := 0, slots := 0, locals := 28 } : Room) s m #[(.ref a1), (.int (0 : Int32)), .null, .null, (.int (1 : Int32)), (.ref a2)] below meth c n0 s₁ h0 0 0 := ⟨[], Stand.of_body Bd, Fr.nil n0, by rw [← hh, Bd.state]; rfl, Z0⟩
  refine (?_ : own_Fin p e below _ _)
  refine own_st (fun t k => castTop (ef_12_RINNIR m a1 (0 : Int32) (1 : Int32) a2) k) ?_
  refine own_aloadN Y0 hx (pc' := 1) (hb hby d12_0) rfl rfl rfl ?_
  refine own_iloadN Y0 hx (pc' := 2) (hb hby d12_1) rfl rfl ?_
  refine own_aloadN Y0 hx (pc' := 3) (hb hby d12_2) rfl rfl rfl ?_
  refine own_aloadN Y0 hx (pc' := 4) (hb hby d12_3) rfl rfl rfl ?_
  refine own_virtual Y0 hx (pc' := 7) (W := 0) (cl' := 0) (sl' := 0) (as' := [(.int (0 : Int32)), .null, .null]) (S' := []) (a := a1) hZ hown (own_w hw 102 rfl) (own_w hw 103 rfl) (notFace_of_selects (args := #[]) (mvT hZ (own_w hw 105 rfl))) (own_w hw 105 rfl) (own_w hw 104 rfl) (own_w hw 3 rfl) (own_w hw 106 rfl) (by decide) P0 (rm13_10 l Z a0 hw [] a1 a3 h0 n0 (own_sz Y0) P1 P2 P3 P0 P4 P5 P6 P7 P8) (hb hby d12_4) rfl (by rw [hml]; rfl) rfl (lenOf pd__ILjava_lang_Object_Ljava_lang_Object__V rfl) rfl (by decide) (by decide) rfl rfl (by decide) (by decide) P13_10_sz (own_fixR (S2 := []) rfl (fun T1 h1 Y1 R1 => ?_))
  obtain ⟨K1, G1_0, G1_1, G1_2, G1_3, G1_4, G1_5⟩ := R1
  refine own_aloadN Y1 hx (pc' := 8) (hb hby d12_7) rfl rfl rfl ?_
  have F3 := (own_E P0 K1)
  have F4 := (own_F (v := (.ref a4)) P9 K1 (own_nr (sl_54 hw) (own_nr (sl_55 hw) (own_nr (sl_56 hw) (own_nr (sl_57 hw) (own_nr (sl_5 hw) (own_nr (sl_6 hw) own_nin0)))))))
  refine own_virtual Y1 hx (pc' := 11) (W := 0) (cl' := 0) (sl' := 0) (as' := []) (S' := []) (a := a1) hZ hown (own_w hw 114 rfl) (own_w hw 115 rfl) (notFace_of_selects (args := #[]) (mvT hZ (own_w hw 117 rfl))) (own_w hw 117 rfl) (own_w hw 116 rfl) (own_w hw 3 rfl) (own_w hw 118 rfl) (by decide) F3 (rm15_11 l Z a0 hw [] a1 a4 h1 n0 (own_sz Y1) F4) (hb hby d12_8) rfl (by rw [hml]; rfl) rfl (lenOf pd___Z rfl) rfl (by decide) (by decide) rfl rfl (by decide) (by decide) own_Same.sz (own_fixS (S2 := [(.int (0 : Int32))]) rfl (fun T2 Y2 => ?_))
  refine own_ifNo Y2 hx (pc' := 14) (hb hby d12_11) rfl (by decide) ?_
  refine own_aloadN Y2 hx (pc' := 15) (hb hby d12_14) rfl rfl rfl ?_
  refine own_iload Y2 hx (pc' := 17) (hb hby d12_15) rfl rfl ?_
  refine own_aload Y2 hx (pc' := 19) (hb hby d12_17) rfl rfl rfl ?_
  have F6 := (own_F (v := .null) P10 K1 (own_nr (sl_59 hw) (own_nr (sl_60 hw) (own_nr (sl_61 hw) (own_nr (sl_62 hw) (own_nr (sl_63 hw) (own_nr (sl_64 hw) own_nin0)))))))
  have F7 := (own_F (v := .null) P11 K1 (own_nr (sl_66 hw) (own_nr (sl_67 hw) (own_nr (sl_68 hw) (own_nr (sl_69 hw) (own_nr (sl_70 hw) (own_nr (sl_71 hw) own_nin0)))))))
  have F8 := (own_F (v := .null) P12 K1 (own_nr (sl_72 hw) (own_nr (sl_73 hw) (own_nr (sl_74 hw) (own_nr (sl_75 hw) (own_nr (sl_7 hw) (own_nr (sl_8 hw) own_nin0)))))))
  refine own_private Y2 hx (pc' := 22) (W := 0) (cl' := 0) (sl' := 0) (as' := [(.int (1 : Int32)), (.ref a2)]) (S' := []) (a := a1) hZ hown (own_w hw 119 rfl) (own_w hw 120 rfl) (own_selP hZ (own_nfI (own_w hw 2 rfl)) (own_w hw 121 rfl) (own_w hw 120 rfl) (by decide)) (own_w hw 121 rfl) (own_w hw 3 rfl) (own_w hw 122 rfl) (by decide) F3 (rm16_12 l Z a0 hw [] a1 a2 h1 n0 (own_sz Y2) F6 F7 F3 P4 F8) (hb hby d12_19) rfl (by rw [hml]; rfl) rfl (lenOf pd__ILcom_example_napkintree_napkintree_balancing_MultiwayTree_Node__V rfl) rfl (by decide) (by decide) rfl rfl (by decide) (by decide) P16_12_sz (own_fixR (S2 := []) rfl (fun T5 h5 Y5 R5 => ?_))
  obtain ⟨K5, G5_0, G5_1, G5_2⟩ := R5
  have KC9 : own_Kp h0 h5 [(a1, Jvm.RoadKit.slotOf Z zs0 "key2" zs1), (a1, Jvm.RoadKit.slotOf Z zs0 "value2" zs1), (a1, Jvm.RoadKit.slotOf Z zs0 "key1" zs1), (a1, Jvm.RoadKit.slotOf Z zs0 "value1" zs1), (a1, Jvm.RoadKit.slotOf Z zs0 "key0" zs1), (a1, Jvm.RoadKit.slotOf Z zs0 "value0" zs1), (a1, Jvm.RoadKit.slotOf Z zs0 "child3" zs16), (a1, Jvm.RoadKit.slotOf Z zs0 "child2" zs16), (a1, Jvm.RoadKit.slotOf Z zs0 "child1" zs16)] := (((own_Kp.refl h0 [(a1, Jvm.RoadKit.slotOf Z zs0 "key2" zs1), (a1, Jvm.RoadKit.slotOf Z zs0 "value2" zs1), (a1, Jvm.RoadKit.slotOf Z zs0 "key1" zs1), (a1, Jvm.RoadKit.slotOf Z zs0 "value1" zs1), (a1, Jvm.RoadKit.slotOf Z zs0 "key0" zs1), (a1, Jvm.RoadKit.slotOf Z zs0 "value0" zs1), (a1, Jvm.RoadKit.slotOf Z zs0 "child3" zs16), (a1, Jvm.RoadKit.slotOf Z zs0 "child2" zs16), (a1, Jvm.RoadKit.slotOf Z zs0 "child1" zs16)]).trans K1 (own_allS (Or.inl (List.mem_of_getElem? (i := 0) rfl)) (own_allS (Or.inl (List.mem_of_getElem? (i := 1) rfl)) (own_allS (Or.inl (List.mem_of_getElem? (i := 2) rfl)) (own_allS (Or.inl (List.mem_of_getElem? (i := 3) rfl)) (own_allS (Or.inl (List.mem_of_getElem? (i := 4) rfl)) (own_allS (Or.inl (List.mem_of_getElem? (i := 5) rfl)) own_all0))))))).trans K5 (own_allS (Or.inl (List.mem_of_getElem? (i := 6) rfl)) (own_allS (Or.inl (List.mem_of_getElem? (i := 7) rfl)) (own_allS (Or.inl (List.mem_of_getElem? (i := 8) rfl)) own_all0))))
  have F10 := (own_F (v := .null) G1_0 K5 (own_nr (sl_16 hw) (own_nr (sl_15 hw) (own_nr (sl_81 hw) own_nin0))))
  have F11 := (own_F (v := .null) G1_1 K5 (own_nr (sl_21 hw) (own_nr (sl_20 hw) (own_nr (sl_82 hw) own_nin0))))
  have F12 := (own_F (v := .null) G1_2 K5 (own_nr (sl_12 hw) (own_nr (sl_11 hw) (own_nr (sl_83 hw) own_nin0))))
  have F13 := (own_F (v := .null) G1_3 K5 (own_nr (sl_14 hw) (own_nr (sl_13 hw) (own_nr (sl_84 hw) own_nin0))))
  have F14 := (own_F (v := (.ref a3)) G1_4 K5 (own_nr (sl_85 hw) (own_nr (sl_86 hw) (own_nr (sl_87 hw) own_nin0))))
  have F15 := (own_F (v := .null) G1_5 K5 (own_nr (sl_88 hw) (own_nr (sl_89 hw) (own_nr (sl_90 hw) own_nin0))))
  exact own_ret0 Y5 hx hlk Bd.returns (hb hby d12_22) ⟨rfl, KC9, F10, F11, F12, F13, F14, F15, G5_0, G5_1, G5_2⟩ (by decide) (by decide)
theorem pd__ILjava_lang_Object_Ljava_lang_Object_ILcom_example_napkintree_napkintree_balancing_MultiwayTree_Node__V : parseMethodDescriptor "(ILjava/lang/Object;Ljava/lang/Object;ILcom/example/napkintree/napkintree/balancing/MultiwayTree$Node;)V" = some ⟨[.int, (.object "java/lang/Object"), (.object "java/lang/Object"), .int, (.object "com/example/napkintree/napkintree/balancing/MultiwayTree$Node")], none⟩ := by decide +kernel
theorem d7_109 : decode prog_24_method_6_code 109 = .ok (.aload_n 0, 1) := by decide +kernel
theorem d7_110 : decode prog_24_method_6_code 110 = .ok (.aload_n 3, 1) := by decide +kernel
theorem d7_111 : decode prog_24_method_6_code 111 = .ok (.getstatic 123, 3) := by decide +kernel
theorem d7_114 : decode prog_24_method_6_code 114 = .ok (.invokevirtual 69, 3) := by decide +kernel
theorem d17_0 : decode prog_24_method_10_code 0 = .ok (.aload_n 1, 1) := by decide +kernel
theorem d17_1 : decode prog_24_method_10_code 1 = .ok (.aload_n 0, 1) := by decide +kernel
theorem d17_2 : decode prog_24_method_10_code 2 = .ok (.invokevirtual 134, 3) := by decide +kernel
theorem d18_0 : decode prog_35_method_13_code 0 = .ok (.aload_n 0, 1) := by decide +kernel
theorem d18_1 : decode prog_35_method_13_code 1 = .ok (.getfield 43, 3) := by decide +kernel
theorem sl_91 {Z : State} {a0 : Array Value} (hw : ∀ d ∈ tables_1, d.before a0 Z = true) : Jvm.RoadKit.slotOf Z zs7 "shapeCount" "I" ≠ Jvm.RoadKit.slotOf Z zs7 "comparator" zs8 := slot_ne (C := zs9) (Or.inl (own_w hw 140 rfl)) (Or.inr (own_w hw 28 rfl)) (by decide) (t := .int) (t' := (.object zs10)) (by decide) (by decide)
theorem sl_92 {Z : State} {a0 : Array Value} (hw : ∀ d ∈ tables_1, d.before a0 Z = true) : Jvm.RoadKit.slotOf Z zs7 "shapeCount" "I" ≠ Jvm.RoadKit.slotOf Z zs6 zs11 zs12 := slot_ne (C := zs9) (Or.inl (own_w hw 140 rfl)) (Or.inr (own_w hw 34 rfl)) (by decide) (t := .int) (t' := (.object zs13)) (by decide) (by decide)
theorem sl_93 {Z : State} {a0 : Array Value} (hw : ∀ d ∈ tables_1, d.before a0 Z = true) : Jvm.RoadKit.slotOf Z zs7 "shapeCount" "I" ≠ Jvm.RoadKit.slotOf Z zs7 "root" zs14 := slot_ne (C := zs9) (Or.inl (own_w hw 140 rfl)) (Or.inl (own_w hw 37 rfl)) (by decide) (t := .int) (t' := (.object zs15)) (by decide) (by decide)
theorem d18_4 : decode prog_35_method_13_code 4 = .ok (.ireturn, 1) := by decide +kernel
theorem ef_18_R (m : MethodId) (x0 : Addr) : entryFrame m #[(.ref x0)] 1 = mkF m 0 #[.val (.ref x0)] [] := by first | (simp [entryFrame, mkF, argsToLocals, Value.category]; done) | rfl
set_option maxRecDepth 65536 in
set_option maxHeartbeats 40000000 in
theorem rm18_14 (l : Launch) (Z : State) (a0 : Array Value) (hw : ∀ d ∈ tables_1, d.before a0 Z = true) (ws : List Jvm.Cond) (a1 : Addr) (h0 : Heap) (n0 : Nat) (Z0 : n0 ≤ Array.size h0) (P0 : Fld Z h0 a1 zs7 "shapeCount" "I" (.int (0 : Int32))) :
    MetFree l (⟨zs7, "shapeCount", "()I"⟩ : MethodName) (head1 (Jvm.Cond.code (⟨zs7, "shapeCount", "()I"⟩ : MethodName) prog_35_method_13_code 1 (some .int) :: ws) ({ frames := 0, cells := 0, slots := 0, locals := 0 } : Room)) (fun a U => a = #[(.ref a1)] ∧ Z.Warmed39 U.vm ∧ U.heap = h0) (fun _ _ _ _ _ => True) (fun _ U o U' => ∃ v L, o = .returned v ∧ own_QQ n0 (own_Same (some (.int (0 : Int32))) h0) v U'.heap L ∧ FrameEnd U o U' L ({ frames := 0, cells := 0, slots := 0, locals := 0 } : Room).cells ({ frames := 0, cells := 0, slots := 0, locals := 0 } : Room).slots) := by
  refine MetFree.of_bodySF (plainFor_of_name pn_com_example_napkintree_napkintree_balancing_SearchTree) hisR ?_
  intro p e s m args below meth c s₁ Bd hml0 hP hK
  obtain ⟨rfl, hZ, hh⟩ := hP
  have hx := Bd.exec
  have hby := Bd.bytes
  have hml : c.maxLocals = 1 := hml0
  have hown : s.vm.findClass zs7 = some m.cls := findClass_of_methodNamed Bd.named
  have hnm := (name_of_methodNamed Bd.named Bd.method).1
  have hlk : meth.locks = false := BodyLoose.notSynchronized Bd
  have Y0 : own_S p l e ({ frames := 0, cells := 0, slots := 0, locals := 0 } : Room) s m #[(.ref a1)] below meth c n0 s₁ h0 0 0 := ⟨[], Stand.of_body Bd, Fr.nil n0, by rw [← hh, Bd.state]; rfl, Z0⟩
  refine (?_ : own_Fin p e below _ _)
  refine own_st (fun t k => castTop (ef_18_R m a1) k) ?_
  refine own_aloadN Y0 hx (pc' := 1) (hb hby d18_0) rfl rfl rfl ?_
  refine own_getF Y0 hx (pc' := 4) (v := (.int (0 : Int32))) hZ hown (host := "") (Or.inl (own_w hw 139 rfl)) Via.refl P0 (hb hby d18_1) rfl (fun T1 Y1 => ?_)
  exact own_retN Y1 hx hlk Bd.returns rfl (by simp) (hb hby d18_4) ⟨rfl, rfl⟩ (by decide) (by decide)
theorem pd___I : parseMethodDescriptor "()I" = some ⟨[], some .int⟩ := by decide +kernel
theorem d17_5 : decode prog_24_method_10_code 5 = .ok (.getstatic 137, 3) := by decide +kernel
theorem d17_8 : decode prog_24_method_10_code 8 = .ok (.ishl, 1) := by decide +kernel
theorem d17_9 : decode prog_24_method_10_code 9 = .ok (.aload_n 2, 1) := by decide +kernel
theorem d17_10 : decode prog_24_method_10_code 10 = .ok (.invokevirtual 140, 3) := by decide +kernel
theorem d19_0 : decode jdk_37_method_2_code 0 = .ok (.aload_n 0, 1) := by decide +kernel
theorem d19_1 : decode jdk_37_method_2_code 1 = .ok (.getfield 7, 3) := by decide +kernel
theorem d19_4 : decode jdk_37_method_2_code 4 = .ok (.ireturn, 1) := by decide +kernel
theorem ef_19_R (m : MethodId) (x0 : Addr) : entryFrame m #[(.ref x0)] 1 = mkF m 0 #[.val (.ref x0)] [] := by first | (simp [entryFrame, mkF, argsToLocals, Value.category]; done) | rfl
theorem pn_java_lang_Enum : plainName "java/lang/Enum" = true := by first | (simp [plainName, overriddenIn]; done) | decide +kernel
set_option maxRecDepth 65536 in
set_option maxHeartbeats 40000000 in
theorem rm19_15 (l : Launch) (Z : State) (a0 : Array Value) (hw : ∀ d ∈ tables_1, d.before a0 Z = true) (ws : List Jvm.Cond) (a1 : Addr) (h0 : Heap) (n0 : Nat) (Z0 : n0 ≤ Array.size h0) (P0 : Fld Z h0 a1 zs5 "ordinal" "I" (.int (1 : Int32))) :
    MetFree l (⟨zs5, "ordinal", "()I"⟩ : MethodName) (head1 (Jvm.Cond.code (⟨zs5, "ordinal", "()I"⟩ : MethodName) jdk_37_method_2_code 1 (some .int) :: ws) ({ frames := 0, cells := 0, slots := 0, locals := 0 } : Room)) (fun a U => a = #[(.ref a1)] ∧ Z.Warmed39 U.vm ∧ U.heap = h0) (fun _ _ _ _ _ => True) (fun _ U o U' => ∃ v L, o = .returned v ∧ own_QQ n0 (own_Same (some (.int (1 : Int32))) h0) v U'.heap L ∧ FrameEnd U o U' L ({ frames := 0, cells := 0, slots := 0, locals := 0 } : Room).cells ({ frames := 0, cells := 0, slots := 0, locals := 0 } : Room).slots) := by
  refine MetFree.of_bodySF (plainFor_of_name pn_java_lang_Enum) hisR ?_
  intro p e s m args below meth c s₁ Bd hml0 hP hK
  obtain ⟨rfl, hZ, hh⟩ := hP
  have hx := Bd.exec
  have hby := Bd.bytes
  have hml : c.maxLocals = 1 := hml0
  have hown : s.vm.findClass zs5 = some m.cls := findClass_of_methodNamed Bd.named
  have hnm := (name_of_methodNamed Bd.named Bd.method).1
  have hlk : meth.locks = false := BodyLoose.notSynchronized Bd
  have Y0 : own_S p l e ({ frames := 0, cells := 0, slots := 0, locals := 0 } : Room) s m #[(.ref a1)] below meth c n0 s₁ h0 0 0 := ⟨[], Stand.of_body Bd, Fr.nil n0, by rw [← hh, Bd.state]; rfl, Z0⟩
  refine (?_ : own_Fin p e below _ _)
  refine own_st (fun t k => castTop (ef_19_R m a1) k) ?_
  refine own_aloadN Y0 hx (pc' := 1) (hb hby d19_0) rfl rfl rfl ?_
  refine own_getF Y0 hx (pc' := 4) (v := (.int (1 : Int32))) hZ hown (host := "") (Or.inl (own_w hw 150 rfl)) Via.refl P0 (hb hby d19_1) rfl (fun T1 Y1 => ?_)
  exact own_retN Y1 hx hlk Bd.returns rfl (by simp) (hb hby d19_4) ⟨rfl, rfl⟩ (by decide) (by decide)
theorem d17_13 : decode prog_24_method_10_code 13 = .ok (.iconst 1, 1) := by decide +kernel
theorem d17_14 : decode prog_24_method_10_code 14 = .ok (.iadd, 1) := by decide +kernel
theorem d17_15 : decode prog_24_method_10_code 15 = .ok (.ior, 1) := by decide +kernel
theorem d17_16 : decode prog_24_method_10_code 16 = .ok (.putfield 143, 3) := by decide +kernel
theorem sl_94 {Z : State} {a0 : Array Value} (hw : ∀ d ∈ tables_1, d.before a0 Z = true) : Jvm.RoadKit.slotOf Z zs0 "mark" "I" ≠ Jvm.RoadKit.slotOf Z zs0 "child2" zs16 := slot_ne (C := zs0) (Or.inl (own_w hw 153 rfl)) (Or.inl (own_w hw 71 rfl)) (by decide) (t := .int) (t' := (.object zs0)) (by decide) (by decide)
theorem sl_95 {Z : State} {a0 : Array Value} (hw : ∀ d ∈ tables_1, d.before a0 Z = true) : Jvm.RoadKit.slotOf Z zs0 "mark" "I" ≠ Jvm.RoadKit.slotOf Z zs0 "child3" zs16 := slot_ne (C := zs0) (Or.inl (own_w hw 153 rfl)) (Or.inl (own_w hw 73 rfl)) (by decide) (t := .int) (t' := (.object zs0)) (by decide) (by decide)
theorem sl_96 {Z : State} {a0 : Array Value} (hw : ∀ d ∈ tables_1, d.before a0 Z = true) : Jvm.RoadKit.slotOf Z zs0 "mark" "I" ≠ Jvm.RoadKit.slotOf Z zs0 "key1" zs1 := slot_ne (C := zs0) (Or.inl (own_w hw 153 rfl)) (Or.inl (own_w hw 82 rfl)) (by decide) (t := .int) (t' := (.object zs2)) (by decide) (by decide)
theorem sl_97 {Z : State} {a0 : Array Value} (hw : ∀ d ∈ tables_1, d.before a0 Z = true) : Jvm.RoadKit.slotOf Z zs0 "mark" "I" ≠ Jvm.RoadKit.slotOf Z zs0 "key2" zs1 := slot_ne (C := zs0) (Or.inl (own_w hw 153 rfl)) (Or.inl (own_w hw 63 rfl)) (by decide) (t := .int) (t' := (.object zs2)) (by decide) (by decide)
theorem sl_98 {Z : State} {a0 : Array Value} (hw : ∀ d ∈ tables_1, d.before a0 Z = true) : Jvm.RoadKit.slotOf Z zs0 "mark" "I" ≠ Jvm.RoadKit.slotOf Z zs0 "value1" zs1 := slot_ne (C := zs0) (Or.inl (own_w hw 153 rfl)) (Or.inl (own_w hw 94 rfl)) (by decide) (t := .int) (t' := (.object zs2)) (by decide) (by decide)
theorem sl_99 {Z : State} {a0 : Array Value} (hw : ∀ d ∈ tables_1, d.before a0 Z = true) : Jvm.RoadKit.slotOf Z zs0 "mark" "I" ≠ Jvm.RoadKit.slotOf Z zs0 "value2" zs1 := slot_ne (C := zs0) (Or.inl (own_w hw 153 rfl)) (Or.inl (own_w hw 67 rfl)) (by decide) (t := .int) (t' := (.object zs2)) (by decide) (by decide)
theorem d17_19 : decode prog_24_method_10_code 19 = .ok (.return_, 1) := by decide +kernel
theorem ef_17_RRR (m : MethodId) (x0 : Addr) (x1 : Addr) (x2 : Addr) : entryFrame m #[(.ref x0), (.ref x1), (.ref x2)] 3 = mkF m 0 #[.val (.ref x0), .val (.ref x1), .val (.ref x2)] [] := by first | (simp [entryFrame, mkF, argsToLocals, Value.category]; done) | rfl
def P17_16 (Z : State) (a1 : Addr) (a2 : Addr) (a3 : Addr) (h0 : Heap) (h : Heap) : Prop := own_Kp h0 h [(a2, Jvm.RoadKit.slotOf Z zs0 "mark" "I")] ∧ Fld Z h a2 zs0 "mark" "I" (.int (2 : Int32))
theorem P17_16_sz {Z : State} {a1 : Addr} {a2 : Addr} {a3 : Addr} {h0 : Heap} : ∀ v h', (own_R none (P17_16 Z a1 a2 a3 h0)) v h' → Array.size h0 ≤ Array.size h' := by
  intro v h' q
  obtain ⟨-, K, -⟩ := q
  exact K.1
set_option maxRecDepth 65536 in
set_option maxHeartbeats 40000000 in
theorem rm17_16 (l : Launch) (Z : State) (a0 : Array Value) (hw : ∀ d ∈ tables_1, d.before a0 Z = true) (ws : List Jvm.Cond) (a1 : Addr) (a2 : Addr) (a3 : Addr) (h0 : Heap) (n0 : Nat) (Z0 : n0 ≤ Array.size h0) (P0 : Exa Z h0 a1 zs9) (P1 : Fld Z h0 a1 zs7 "shapeCount" "I" (.int (0 : Int32))) (P2 : Sta Z h0 zs6 "MARK_BITS" "I" (.int (2 : Int32))) (P3 : Exa Z h0 a3 zs3) (P4 : Fld Z h0 a3 zs5 "ordinal" "I" (.int (1 : Int32))) (P5 : Fld Z h0 a2 zs0 "mark" "I" (.int (0 : Int32))) (P6 : Exa Z h0 a2 zs0) (P7 : n0 ≤ a2) :
    MetFree l (⟨zs6, "mark", zs23⟩ : MethodName) (head1 (Jvm.Cond.code (⟨zs6, "mark", zs23⟩ : MethodName) prog_24_method_10_code 3 none :: ws) ({ frames := 1, cells := 0, slots := 0, locals := 14 } : Room)) (fun a U => a = #[(.ref a1), (.ref a2), (.ref a3)] ∧ Z.Warmed39 U.vm ∧ U.heap = h0) (fun _ _ _ _ _ => True) (fun _ U o U' => ∃ v L, o = .returned v ∧ own_QQ n0 (own_R none (P17_16 Z a1 a2 a3 h0)) v U'.heap L ∧ FrameEnd U o U' L ({ frames := 1, cells := 0, slots := 0, locals := 14 } : Room).cells ({ frames := 1, cells := 0, slots := 0, locals := 14 } : Room).slots) := by
  refine MetFree.of_bodySF (plainFor_of_name pn_com_example_napkintree_napkintree_balancing_MultiwayTree) hisR ?_
  intro p e s m args below meth c s₁ Bd hml0 hP hK
  obtain ⟨rfl, hZ, hh⟩ := hP
  have hx := Bd.exec
  have hby := Bd.bytes
  have hml : c.maxLocals = 3 := hml0
  have hown : s.vm.findClass zs6 = some m.cls := findClass_of_methodNamed Bd.named
  have hnm := (name_of_methodNamed Bd.named Bd.method).1
  have hlk : meth.locks = false := BodyLoose.notSynchronized Bd
  have Y0 : own_S p l e ({ frames := 1, cells := 0, slots := 0, locals := 14 } : Room) s m #[(.ref a1), (.ref a2), (.ref a3)] below meth c n0 s₁ h0 0 0 := ⟨[], Stand.of_body Bd, Fr.nil n0, by rw [← hh, Bd.state]; rfl, Z0⟩
  refine (?_ : own_Fin p e below _ _)
  refine own_st (fun t k => castTop (ef_17_RRR m a1 a2 a3) k) ?_
  refine own_aloadN Y0 hx (pc' := 1) (hb hby d17_0) rfl rfl rfl ?_
  refine own_aloadN Y0 hx (pc' := 2) (hb hby d17_1) rfl rfl rfl ?_
  refine own_virtualUp Y0 hx (pc' := 5) (W := 1) (cl' := 0) (sl' := 0) (as' := []) (S' := [(.ref a2)]) (a := a1) hZ hown (own_w hw 133 rfl) (own_w hw 134 rfl) (own_w hw 135 rfl) (own_w hw 137 rfl) (own_w hw 136 rfl) (own_w hw 24 rfl) (own_w hw 138 rfl) (by decide) P0 (rm18_14 l Z a0 hw [] a1 h0 n0 (own_sz Y0) P1) (hb hby d17_2) rfl (by rw [hml]; rfl) rfl (lenOf pd___I rfl) rfl (by decide) (by decide) rfl rfl (by decide) (by decide) own_Same.sz (own_fixS (S2 := [(.int (0 : Int32)), (.ref a2)]) rfl (fun T1 Y1 => ?_))
  refine own_getS Y1 hx (pc' := 8) (v := (.int (2 : Int32))) hZ hown (host := "") (Or.inl (own_w hw 141 rfl)) Via.refl P2 (hb hby d17_5) rfl (fun T2 Y2 => ?_)
  refine own_ishl Y2 hx (pc' := 9) (hb hby d17_8) rfl (z := (0 : Int32)) (by decide) ?_
  refine own_aloadN Y2 hx (pc' := 10) (hb hby d17_9) rfl rfl rfl ?_
  refine own_virtualUp Y2 hx (pc' := 13) (W := 2) (cl' := 0) (sl' := 0) (as' := []) (S' := [(.int (0 : Int32)), (.ref a2)]) (a := a3) hZ hown (own_w hw 143 rfl) (own_w hw 144 rfl) (own_w hw 145 rfl) (own_w hw 147 rfl) (own_w hw 146 rfl) (own_w hw 148 rfl) (own_w hw 149 rfl) (by decide) P3 (rm19_15 l Z a0 hw [] a3 h0 n0 (own_sz Y2) P4) (hb hby d17_10) rfl (by rw [hml]; rfl) rfl (lenOf pd___I rfl) rfl (by decide) (by decide) rfl rfl (by decide) (by decide) own_Same.sz (own_fixS (S2 := [(.int (1 : Int32)), (.int (0 : Int32)), (.ref a2)]) rfl (fun T3 Y3 => ?_))
  refine own_iconst Y3 hx (pc' := 14) (x := (1 : Int32)) (hb hby d17_13) rfl (by decide) ?_
  refine own_iadd Y3 hx (pc' := 15) (hb hby d17_14) rfl (z := (2 : Int32)) (by decide) ?_
  refine own_ior Y3 hx (pc' := 16) (hb hby d17_15) rfl (z := (2 : Int32)) (by decide) ?_
  refine own_putF Y3 hx (pc' := 19) hZ hown (Or.inr (own_w hw 152 rfl)) Via.refl P5 P6 (Or.inl (own_w hw 153 rfl)) (own_w hw 2 rfl) (ty := .int) (by decide) rfl rfl P7 (hb hby d17_16) rfl (fun T4 h4 Y4 K4 F4 => ?_)
  have KC5 : own_Kp h0 h4 [(a2, Jvm.RoadKit.slotOf Z zs0 "mark" "I")] := ((own_Kp.refl h0 [(a2, Jvm.RoadKit.slotOf Z zs0 "mark" "I")]).trans K4 (own_allS (Or.inl (List.mem_of_getElem? (i := 0) rfl)) own_all0))
  exact own_ret0 Y4 hx hlk Bd.returns (hb hby d17_19) ⟨rfl, KC5, F4⟩ (by decide) (by decide)
theorem pd__Lcom_example_napkintree_napkintree_balancing_MultiwayTree_Node_Lcom_example_napkintree_napkintree_balancing_NodeMark__V : parseMethodDescriptor "(Lcom/example/napkintree/napkintree/balancing/MultiwayTree$Node;Lcom/example/napkintree/napkintree/balancing/NodeMark;)V" = some ⟨[(.object "com/example/napkintree/napkintree/balancing/MultiwayTree$Node"), (.object "com/example/napkintree/napkintree/balancing/NodeMark")], none⟩ := by decide +kernel
theorem d7_117 : decode prog_24_method_6_code 117 = .ok (.aload_n 0, 1) := by decide +kernel
theorem d7_118 : decode prog_24_method_6_code 118 = .ok (.aload 4, 2) := by decide +kernel
theorem d7_120 : decode prog_24_method_6_code 120 = .ok (.getstatic 123, 3) := by decide +kernel
theorem d7_123 : decode prog_24_method_6_code 123 = .ok (.invokevirtual 69, 3) := by decide +kernel
theorem sl_100 {Z : State} {a0 : Array Value} (hw : ∀ d ∈ tables_1, d.before a0 Z = true) : Jvm.RoadKit.slotOf Z zs0 "mark" "I" ≠ Jvm.RoadKit.slotOf Z zs0 "key0" zs1 := slot_ne (C := zs0) (Or.inl (own_w hw 153 rfl)) (Or.inl (own_w hw 65 rfl)) (by decide) (t := .int) (t' := (.object zs2)) (by decide) (by decide)
theorem sl_101 {Z : State} {a0 : Array Value} (hw : ∀ d ∈ tables_1, d.before a0 Z = true) : Jvm.RoadKit.slotOf Z zs0 "mark" "I" ≠ Jvm.RoadKit.slotOf Z zs0 "value0" zs1 := slot_ne (C := zs0) (Or.inl (own_w hw 153 rfl)) (Or.inl (own_w hw 69 rfl)) (by decide) (t := .int) (t' := (.object zs2)) (by decide) (by decide)
theorem sl_102 {Z : State} {a0 : Array Value} (hw : ∀ d ∈ tables_1, d.before a0 Z = true) : Jvm.RoadKit.slotOf Z zs0 "mark" "I" ≠ Jvm.RoadKit.slotOf Z zs0 "child0" zs16 := slot_ne (C := zs0) (Or.inl (own_w hw 153 rfl)) (Or.inl (own_w hw 50 rfl)) (by decide) (t := .int) (t' := (.object zs0)) (by decide) (by decide)
theorem sl_103 {Z : State} {a0 : Array Value} (hw : ∀ d ∈ tables_1, d.before a0 Z = true) : Jvm.RoadKit.slotOf Z zs0 "mark" "I" ≠ Jvm.RoadKit.slotOf Z zs0 "child1" zs16 := slot_ne (C := zs0) (Or.inl (own_w hw 153 rfl)) (Or.inl (own_w hw 75 rfl)) (by decide) (t := .int) (t' := (.object zs0)) (by decide) (by decide)
theorem d7_126 : decode prog_24_method_6_code 126 = .ok (.aload_n 0, 1) := by decide +kernel
theorem d7_127 : decode prog_24_method_6_code 127 = .ok (.aload_n 1, 1) := by decide +kernel
theorem d7_128 : decode prog_24_method_6_code 128 = .ok (.getstatic 63, 3) := by decide +kernel
theorem d7_131 : decode prog_24_method_6_code 131 = .ok (.invokevirtual 69, 3) := by decide +kernel
set_option maxRecDepth 65536 in
set_option maxHeartbeats 40000000 in
theorem rm19_17 (l : Launch) (Z : State) (a0 : Array Value) (hw : ∀ d ∈ tables_1, d.before a0 Z = true) (ws : List Jvm.Cond) (a1 : Addr) (h0 : Heap) (n0 : Nat) (Z0 : n0 ≤ Array.size h0) (P0 : Fld Z h0 a1 zs5 "ordinal" "I" (.int (0 : Int32))) :
    MetFree l (⟨zs5, "ordinal", "()I"⟩ : MethodName) (head1 (Jvm.Cond.code (⟨zs5, "ordinal", "()I"⟩ : MethodName) jdk_37_method_2_code 1 (some .int) :: ws) ({ frames := 0, cells := 0, slots := 0, locals := 0 } : Room)) (fun a U => a = #[(.ref a1)] ∧ Z.Warmed39 U.vm ∧ U.heap = h0) (fun _ _ _ _ _ => True) (fun _ U o U' => ∃ v L, o = .returned v ∧ own_QQ n0 (own_Same (some (.int (0 : Int32))) h0) v U'.heap L ∧ FrameEnd U o U' L ({ frames := 0, cells := 0, slots := 0, locals := 0 } : Room).cells ({ frames := 0, cells := 0, slots := 0, locals := 0 } : Room).slots) := by
  refine MetFree.of_bodySF (plainFor_of_name pn_java_lang_Enum) hisR ?_
  intro p e s m args below meth c s₁ Bd hml0 hP hK
  obtain ⟨rfl, hZ, hh⟩ := hP
  have hx := Bd.exec
  have hby := Bd.bytes
  have hml : c.maxLocals = 1 := hml0
  have hown : s.vm.findClass zs5 = some m.cls := findClass_of_methodNamed Bd.named
  have hnm := (name_of_methodNamed Bd.named Bd.method).1
  have hlk : meth.locks = false := BodyLoose.notSynchronized Bd
  have Y0 : own_S p l e ({ frames := 0, cells := 0, slots := 0, locals := 0 } : Room) s m #[(.ref a1)] below meth c n0 s₁ h0 0 0 := ⟨[], Stand.of_body Bd, Fr.nil n0, by rw [← hh, Bd.state]; rfl, Z0⟩
  refine (?_ : own_Fin p e below _ _)
  refine own_st (fun t k => castTop (ef_19_R m a1) k) ?_
  refine own_aloadN Y0 hx (pc' := 1) (hb hby d19_0) rfl rfl rfl ?_
  refine own_getF Y0 hx (pc' := 4) (v := (.int (0 : Int32))) hZ hown (host := "") (Or.inl (own_w hw 150 rfl)) Via.refl P0 (hb hby d19_1) rfl (fun T1 Y1 => ?_)
  exact own_retN Y1 hx hlk Bd.returns rfl (by simp) (hb hby d19_4) ⟨rfl, rfl⟩ (by decide) (by decide)
def P17_18 (Z : State) (a1 : Addr) (a2 : Addr) (a3 : Addr) (h0 : Heap) (h : Heap) : Prop := own_Kp h0 h [(a2, Jvm.RoadKit.slotOf Z zs0 "mark" "I")] ∧ Fld Z h a2 zs0 "mark" "I" (.int (1 : Int32))
theorem P17_18_sz {Z : State} {a1 : Addr} {a2 : Addr} {a3 : Addr} {h0 : Heap} : ∀ v h', (own_R none (P17_18 Z a1 a2 a3 h0)) v h' → Array.size h0 ≤ Array.size h' := by
  intro v h' q
  obtain ⟨-, K, -⟩ := q
  exact K.1
set_option maxRecDepth 65536 in
set_option maxHeartbeats 40000000 in
theorem rm17_18 (l : Launch) (Z : State) (a0 : Array Value) (hw : ∀ d ∈ tables_1, d.before a0 Z = true) (ws : List Jvm.Cond) (a1 : Addr) (a2 : Addr) (a3 : Addr) (h0 : Heap) (n0 : Nat) (Z0 : n0 ≤ Array.size h0) (P0 : Exa Z h0 a1 zs9) (P1 : Fld Z h0 a1 zs7 "shapeCount" "I" (.int (0 : Int32))) (P2 : Sta Z h0 zs6 "MARK_BITS" "I" (.int (2 : Int32))) (P3 : Exa Z h0 a3 zs3) (P4 : Fld Z h0 a3 zs5 "ordinal" "I" (.int (0 : Int32))) (P5 : Fld Z h0 a2 zs0 "mark" "I" (.int (0 : Int32))) (P6 : Exa Z h0 a2 zs0) (P7 : n0 ≤ a2) :
    MetFree l (⟨zs6, "mark", zs23⟩ : MethodName) (head1 (Jvm.Cond.code (⟨zs6, "mark", zs23⟩ : MethodName) prog_24_method_10_code 3 none :: ws) ({ frames := 1, cells := 0, slots := 0, locals := 14 } : Room)) (fun a U => a = #[(.ref a1), (.ref a2), (.ref a3)] ∧ Z.Warmed39 U.vm ∧ U.heap = h0) (fun _ _ _ _ _ => True) (fun _ U o U' => ∃ v L, o = .returned v ∧ own_QQ n0 (own_R none (P17_18 Z a1 a2 a3 h0)) v U'.heap L ∧ FrameEnd U o U' L ({ frames := 1, cells := 0, slots := 0, locals := 14 } : Room).cells ({ frames := 1, cells := 0, slots := 0, locals := 14 } : Room).slots) := by
  refine MetFree.of_bodySF (plainFor_of_name pn_com_example_napkintree_napkintree_balancing_MultiwayTree) hisR ?_
  intro p e s m args below meth c s₁ Bd hml0 hP hK
  obtain ⟨rfl, hZ, hh⟩ := hP
  have hx := Bd.exec
  have hby := Bd.bytes
  have hml : c.maxLocals = 3 := hml0
  have hown : s.vm.findClass zs6 = some m.cls := findClass_of_methodNamed Bd.named
  have hnm := (name_of_methodNamed Bd.named Bd.method).1
  have hlk : meth.locks = false := BodyLoose.notSynchronized Bd
  have Y0 : own_S p l e ({ frames := 1, cells := 0, slots := 0, locals := 14 } : Room) s m #[(.ref a1), (.ref a2), (.ref a3)] below meth c n0 s₁ h0 0 0 := ⟨[], Stand.of_body Bd, Fr.nil n0, by rw [← hh, Bd.state]; rfl, Z0⟩
  refine (?_ : own_Fin p e below _ _)
  refine own_st (fun t k => castTop (ef_17_RRR m a1 a2 a3) k) ?_
  refine own_aloadN Y0 hx (pc' := 1) (hb hby d17_0) rfl rfl rfl ?_
  refine own_aloadN Y0 hx (pc' := 2) (hb hby d17_1) rfl rfl rfl ?_
  refine own_virtualUp Y0 hx (pc' := 5) (W := 1) (cl' := 0) (sl' := 0) (as' := []) (S' := [(.ref a2)]) (a := a1) hZ hown (own_w hw 133 rfl) (own_w hw 134 rfl) (own_w hw 135 rfl) (own_w hw 137 rfl) (own_w hw 136 rfl) (own_w hw 24 rfl) (own_w hw 138 rfl) (by decide) P0 (rm18_14 l Z a0 hw [] a1 h0 n0 (own_sz Y0) P1) (hb hby d17_2) rfl (by rw [hml]; rfl) rfl (lenOf pd___I rfl) rfl (by decide) (by decide) rfl rfl (by decide) (by decide) own_Same.sz (own_fixS (S2 := [(.int (0 : Int32)), (.ref a2)]) rfl (fun T1 Y1 => ?_))
  refine own_getS Y1 hx (pc' := 8) (v := (.int (2 : Int32))) hZ hown (host := "") (Or.inl (own_w hw 141 rfl)) Via.refl P2 (hb hby d17_5) rfl (fun T2 Y2 => ?_)
  refine own_ishl Y2 hx (pc' := 9) (hb hby d17_8) rfl (z := (0 : Int32)) (by decide) ?_
  refine own_aloadN Y2 hx (pc' := 10) (hb hby d17_9) rfl rfl rfl ?_
  refine own_virtualUp Y2 hx (pc' := 13) (W := 2) (cl' := 0) (sl' := 0) (as' := []) (S' := [(.int (0 : Int32)), (.ref a2)]) (a := a3) hZ hown (own_w hw 143 rfl) (own_w hw 144 rfl) (own_w hw 145 rfl) (own_w hw 147 rfl) (own_w hw 146 rfl) (own_w hw 148 rfl) (own_w hw 149 rfl) (by decide) P3 (rm19_17 l Z a0 hw [] a3 h0 n0 (own_sz Y2) P4) (hb hby d17_10) rfl (by rw [hml]; rfl) rfl (lenOf pd___I rfl) rfl (by decide) (by decide) rfl rfl (by decide) (by decide) own_Same.sz (own_fixS (S2 := [(.int (0 : Int32)), (.int (0 : Int32)), (.ref a2)]) rfl (fun T3 Y3 => ?_))
  refine own_iconst Y3 hx (pc' := 14) (x := (1 : Int32)) (hb hby d17_13) rfl (by decide) ?_
  refine own_iadd Y3 hx (pc' := 15) (hb hby d17_14) rfl (z := (1 : Int32)) (by decide) ?_
  refine own_ior Y3 hx (pc' := 16) (hb hby d17_15) rfl (z := (1 : Int32)) (by decide) ?_
  refine own_putF Y3 hx (pc' := 19) hZ hown (Or.inr (own_w hw 152 rfl)) Via.refl P5 P6 (Or.inl (own_w hw 153 rfl)) (own_w hw 2 rfl) (ty := .int) (by decide) rfl rfl P7 (hb hby d17_16) rfl (fun T4 h4 Y4 K4 F4 => ?_)
  have KC5 : own_Kp h0 h4 [(a2, Jvm.RoadKit.slotOf Z zs0 "mark" "I")] := ((own_Kp.refl h0 [(a2, Jvm.RoadKit.slotOf Z zs0 "mark" "I")]).trans K4 (own_allS (Or.inl (List.mem_of_getElem? (i := 0) rfl)) own_all0))
  exact own_ret0 Y4 hx hlk Bd.returns (hb hby d17_19) ⟨rfl, KC5, F4⟩ (by decide) (by decide)
theorem d7_134 : decode prog_24_method_6_code 134 = .ok (.return_, 1) := by decide +kernel
theorem sl_104 {Z : State} {a0 : Array Value} (hw : ∀ d ∈ tables_1, d.before a0 Z = true) : Jvm.RoadKit.slotOf Z zs0 "child2" zs16 ≠ Jvm.RoadKit.slotOf Z zs0 "mark" "I" := slot_ne (C := zs0) (Or.inl (own_w hw 71 rfl)) (Or.inl (own_w hw 153 rfl)) (by decide) (t := (.object zs0)) (t' := .int) (by decide) (by decide)
theorem sl_105 {Z : State} {a0 : Array Value} (hw : ∀ d ∈ tables_1, d.before a0 Z = true) : Jvm.RoadKit.slotOf Z zs0 "child3" zs16 ≠ Jvm.RoadKit.slotOf Z zs0 "mark" "I" := slot_ne (C := zs0) (Or.inl (own_w hw 73 rfl)) (Or.inl (own_w hw 153 rfl)) (by decide) (t := (.object zs0)) (t' := .int) (by decide) (by decide)
theorem sl_106 {Z : State} {a0 : Array Value} (hw : ∀ d ∈ tables_1, d.before a0 Z = true) : Jvm.RoadKit.slotOf Z zs0 "key1" zs1 ≠ Jvm.RoadKit.slotOf Z zs0 "mark" "I" := slot_ne (C := zs0) (Or.inl (own_w hw 82 rfl)) (Or.inl (own_w hw 153 rfl)) (by decide) (t := (.object zs2)) (t' := .int) (by decide) (by decide)
theorem sl_107 {Z : State} {a0 : Array Value} (hw : ∀ d ∈ tables_1, d.before a0 Z = true) : Jvm.RoadKit.slotOf Z zs0 "key2" zs1 ≠ Jvm.RoadKit.slotOf Z zs0 "mark" "I" := slot_ne (C := zs0) (Or.inl (own_w hw 63 rfl)) (Or.inl (own_w hw 153 rfl)) (by decide) (t := (.object zs2)) (t' := .int) (by decide) (by decide)
theorem sl_108 {Z : State} {a0 : Array Value} (hw : ∀ d ∈ tables_1, d.before a0 Z = true) : Jvm.RoadKit.slotOf Z zs0 "value1" zs1 ≠ Jvm.RoadKit.slotOf Z zs0 "mark" "I" := slot_ne (C := zs0) (Or.inl (own_w hw 94 rfl)) (Or.inl (own_w hw 153 rfl)) (by decide) (t := (.object zs2)) (t' := .int) (by decide) (by decide)
theorem sl_109 {Z : State} {a0 : Array Value} (hw : ∀ d ∈ tables_1, d.before a0 Z = true) : Jvm.RoadKit.slotOf Z zs0 "value2" zs1 ≠ Jvm.RoadKit.slotOf Z zs0 "mark" "I" := slot_ne (C := zs0) (Or.inl (own_w hw 67 rfl)) (Or.inl (own_w hw 153 rfl)) (by decide) (t := (.object zs2)) (t' := .int) (by decide) (by decide)
theorem sl_110 {Z : State} {a0 : Array Value} (hw : ∀ d ∈ tables_1, d.before a0 Z = true) : Jvm.RoadKit.slotOf Z zs0 "key0" zs1 ≠ Jvm.RoadKit.slotOf Z zs0 "mark" "I" := slot_ne (C := zs0) (Or.inl (own_w hw 65 rfl)) (Or.inl (own_w hw 153 rfl)) (by decide) (t := (.object zs2)) (t' := .int) (by decide) (by decide)
theorem sl_111 {Z : State} {a0 : Array Value} (hw : ∀ d ∈ tables_1, d.before a0 Z = true) : Jvm.RoadKit.slotOf Z zs0 "value0" zs1 ≠ Jvm.RoadKit.slotOf Z zs0 "mark" "I" := slot_ne (C := zs0) (Or.inl (own_w hw 69 rfl)) (Or.inl (own_w hw 153 rfl)) (by decide) (t := (.object zs2)) (t' := .int) (by decide) (by decide)
theorem sl_112 {Z : State} {a0 : Array Value} (hw : ∀ d ∈ tables_1, d.before a0 Z = true) : Jvm.RoadKit.slotOf Z zs0 "child1" zs16 ≠ Jvm.RoadKit.slotOf Z zs0 "mark" "I" := slot_ne (C := zs0) (Or.inl (own_w hw 75 rfl)) (Or.inl (own_w hw 153 rfl)) (by decide) (t := (.object zs0)) (t' := .int) (by decide) (by decide)
theorem sl_113 {Z : State} {a0 : Array Value} (hw : ∀ d ∈ tables_1, d.before a0 Z = true) : Jvm.RoadKit.slotOf Z zs0 "child0" zs16 ≠ Jvm.RoadKit.slotOf Z zs0 "child1" zs16 := slot_ne (C := zs0) (Or.inl (own_w hw 50 rfl)) (Or.inl (own_w hw 75 rfl)) (by decide) (t := (.object zs0)) (t' := (.object zs0)) (by decide) (by decide)
theorem sl_114 {Z : State} {a0 : Array Value} (hw : ∀ d ∈ tables_1, d.before a0 Z = true) : Jvm.RoadKit.slotOf Z zs0 "child0" zs16 ≠ Jvm.RoadKit.slotOf Z zs0 "mark" "I" := slot_ne (C := zs0) (Or.inl (own_w hw 50 rfl)) (Or.inl (own_w hw 153 rfl)) (by decide) (t := (.object zs0)) (t' := .int) (by decide) (by decide)
theorem ef_7_RRI (m : MethodId) (x0 : Addr) (x1 : Addr) (x2 : Int32) : entryFrame m #[(.ref x0), (.ref x1), (.int x2)] 7 = mkF m 0 #[.val (.ref x0), .val (.ref x1), .val (.int x2), .unset, .unset, .unset, .unset] [] := by first | (simp [entryFrame, mkF, argsToLocals, Value.category]; done) | rfl
def P7_19 (Z : State) (a1 : Addr) (a2 : Addr) (a3 : Addr) (a4 : Addr) (a5 : Addr) (a6 : Addr) (h0 : Heap) (h : Heap) : Prop := ∃ b2 : Addr, own_Kp h0 h [(a3, Jvm.RoadKit.slotOf Z zs0 "child2" zs16), (a3, Jvm.RoadKit.slotOf Z zs0 "child3" zs16), (a3, Jvm.RoadKit.slotOf Z zs0 "key1" zs1), (a3, Jvm.RoadKit.slotOf Z zs0 "key2" zs1), (a3, Jvm.RoadKit.slotOf Z zs0 "value1" zs1), (a3, Jvm.RoadKit.slotOf Z zs0 "value2" zs1), (a2, Jvm.RoadKit.slotOf Z zs0 "key2" zs1), (a2, Jvm.RoadKit.slotOf Z zs0 "value2" zs1), (a2, Jvm.RoadKit.slotOf Z zs0 "key1" zs1), (a2, Jvm.RoadKit.slotOf Z zs0 "value1" zs1), (a2, Jvm.RoadKit.slotOf Z zs0 "key0" zs1), (a2, Jvm.RoadKit.slotOf Z zs0 "value0" zs1), (a2, Jvm.RoadKit.slotOf Z zs0 "child3" zs16), (a2, Jvm.RoadKit.slotOf Z zs0 "child2" zs16), (a2, Jvm.RoadKit.slotOf Z zs0 "child1" zs16), (a3, Jvm.RoadKit.slotOf Z zs0 "mark" "I"), (a2, Jvm.RoadKit.slotOf Z zs0 "mark" "I")] ∧ Array.size h0 ≤ b2 ∧ Fld Z h a3 zs0 "child2" zs16 .null ∧ Fld Z h a3 zs0 "child3" zs16 .null ∧ Fld Z h a3 zs0 "key1" zs1 .null ∧ Fld Z h a3 zs0 "key2" zs1 .null ∧ Fld Z h a3 zs0 "value1" zs1 .null ∧ Fld Z h a3 zs0 "value2" zs1 .null ∧ Fld Z h a2 zs0 "key2" zs1 .null ∧ Fld Z h a2 zs0 "value2" zs1 .null ∧ Fld Z h a2 zs0 "key1" zs1 .null ∧ Fld Z h a2 zs0 "value1" zs1 .null ∧ Fld Z h a2 zs0 "key0" zs1 (.ref a4) ∧ Fld Z h a2 zs0 "value0" zs1 .null ∧ Fld Z h a2 zs0 "child3" zs16 .null ∧ Fld Z h a2 zs0 "child2" zs16 .null ∧ Fld Z h a2 zs0 "child1" zs16 (.ref b2) ∧ Fld Z h a3 zs0 "mark" "I" (.int (2 : Int32)) ∧ Fld Z h a2 zs0 "mark" "I" (.int (1 : Int32)) ∧ Exa Z h b2 zs0 ∧ Fld Z h b2 zs0 "child0" zs16 .null ∧ Fld Z h b2 zs0 "key2" zs1 .null ∧ Fld Z h b2 zs0 "key0" zs1 .null ∧ Fld Z h b2 zs0 "value2" zs1 .null ∧ Fld Z h b2 zs0 "value0" zs1 .null ∧ Fld Z h b2 zs0 "child2" zs16 .null ∧ Fld Z h b2 zs0 "child3" zs16 .null ∧ Fld Z h b2 zs0 "child1" zs16 .null ∧ Fld Z h b2 zs0 "key1" zs1 .null ∧ Fld Z h b2 zs0 "value1" zs1 .null ∧ Fld Z h b2 zs0 "mark" "I" (.int (2 : Int32))
theorem P7_19_sz {Z : State} {a1 : Addr} {a2 : Addr} {a3 : Addr} {a4 : Addr} {a5 : Addr} {a6 : Addr} {h0 : Heap} : ∀ v h', (own_R none (P7_19 Z a1 a2 a3 a4 a5 a6 h0)) v h' → Array.size h0 ≤ Array.size h' := by
  intro v h' q
  obtain ⟨-, _, K, -⟩ := q
  exact K.1
set_option maxRecDepth 65536 in
set_option maxHeartbeats 40000000 in
theorem rm7_19 (l : Launch) (Z : State) (a0 : Array Value) (hw : ∀ d ∈ tables_1, d.before a0 Z = true) (ws : List Jvm.Cond) (a1 : Addr) (a2 : Addr) (a3 : Addr) (a4 : Addr) (a5 : Addr) (a6 : Addr) (h0 : Heap) (n0 : Nat) (Z0 : n0 ≤ Array.size h0) (P0 : Exa Z h0 a2 zs0) (P1 : Fld Z h0 a2 zs0 "child0" zs16 (.ref a3)) (P2 : Fld Z h0 a3 zs0 "key2" zs1 .null) (P3 : Fld Z h0 a3 zs0 "value2" zs1 .null) (P4 : Exa Z h0 a3 zs0) (P5 : Fld Z h0 a3 zs0 "child2" zs16 .null) (P6 : Fld Z h0 a3 zs0 "child3" zs16 .null) (P7 : n0 ≤ a3) (P8 : Fld Z h0 a3 zs0 "key1" zs1 .null) (P9 : Sta Z h0 zs0 "NULL_KEY" zs1 (.ref a4)) (P10 : Fld Z h0 a3 zs0 "value1" zs1 .null) (P11 : Fld Z h0 a2 zs0 "key1" zs1 .null) (P12 : a2 ≠ a3) (P13 : Fld Z h0 a2 zs0 "key2" zs1 .null) (P14 : n0 ≤ a2) (P15 : Fld Z h0 a2 zs0 "value1" zs1 .null) (P16 : Fld Z h0 a2 zs0 "value2" zs1 .null) (P17 : Fld Z h0 a2 zs0 "key0" zs1 .null) (P18 : Fld Z h0 a2 zs0 "value0" zs1 .null) (P19 : Fld Z h0 a2 zs0 "child2" zs16 .null) (P20 : Fld Z h0 a2 zs0 "child3" zs16 .null) (P21 : Fld Z h0 a2 zs0 "child1" zs16 .null) (P22 : Sta Z h0 zs3 "SPLIT" zs4 (.ref a5)) (P23 : Exa Z h0 a1 zs9) (P24 : Fld Z h0 a1 zs7 "shapeCount" "I" (.int (0 : Int32))) (P25 : Sta Z h0 zs6 "MARK_BITS" "I" (.int (2 : Int32))) (P26 : Exa Z h0 a5 zs3) (P27 : Fld Z h0 a5 zs5 "ordinal" "I" (.int (1 : Int32))) (P28 : Fld Z h0 a3 zs0 "mark" "I" (.int (0 : Int32))) (P29 : Sta Z h0 zs3 "ABSORBED" zs4 (.ref a6)) (P30 : Exa Z h0 a6 zs3) (P31 : Fld Z h0 a6 zs5 "ordinal" "I" (.int (0 : Int32))) (P32 : Fld Z h0 a2 zs0 "mark" "I" (.int (0 : Int32))) :
    MetFree l (⟨zs6, "splitChild", zs24⟩ : MethodName) (head1 (Jvm.Cond.code (⟨zs6, "splitChild", zs24⟩ : MethodName) prog_24_method_6_code 7 none :: ws) ({ frames := 3, cells := 1, slots := 11, locals := 45 } : Room)) (fun a U => a = #[(.ref a1), (.ref a2), (.int (0 : Int32))] ∧ Z.Warmed39 U.vm ∧ U.heap = h0) (fun _ _ _ _ _ => True) (fun _ U o U' => ∃ v L, o = .returned v ∧ own_QQ n0 (own_R none (P7_19 Z a1 a2 a3 a4 a5 a6 h0)) v U'.heap L ∧ FrameEnd U o U' L ({ frames := 3, cells := 1, slots := 11, locals := 45 } : Room).cells ({ frames := 3, cells := 1, slots := 11, locals := 45 } : Room).slots) := by
  refine MetFree.of_bodySF (plainFor_of_name pn_com_example_napkintree_napkintree_balancing_MultiwayTree) hisR ?_
  intro p e s m args below meth c s₁ Bd hml0 hP hK
  obtain ⟨rfl, hZ, hh⟩ := hP
  have hx := Bd.exec
  have hby := Bd.bytes
  have hml : c.maxLocals = 7 := hml0
  have hown : s.vm.findClass zs6 = some m.cls := findClass_of_methodNamed Bd.named
  have hnm := (name_of_methodNamed Bd.named Bd.method).1
  have hlk : meth.locks = false := BodyLoose.notSynchronized Bd
  have Y0 : own_S p l e ({ frames := 3, cells := 1, slots := 11, locals := 45 } : Room) s m #[(.ref a1), (.ref a2), (.int (0 : Int32))] below meth c n0 s₁ h0 0 0 := ⟨[], Stand.of_body Bd, Fr.nil n0, by rw [← hh, Bd.state]; rfl, Z0⟩
  refine (?_ : own_Fin p e below _ _)
  refine own_st (fun t k => castTop (ef_7_RRI m a1 a2 (0 : Int32)) k) ?_
  refine own_aloadN Y0 hx (pc' := 1) (hb hby d7_0) rfl rfl rfl ?_
  refine own_iloadN Y0 hx (pc' := 2) (hb hby d7_1) rfl rfl ?_
  refine own_virtual Y0 hx (pc' := 5) (W := 0) (cl' := 0) (sl' := 0) (as' := [(.int (0 : Int32))]) (S' := []) (a := a2) hZ hown (own_w hw 56 rfl) (own_w hw 57 rfl) (notFace_of_selects (args := #[]) (mvT hZ (own_w hw 59 rfl))) (own_w hw 59 rfl) (own_w hw 58 rfl) (own_w hw 3 rfl) (own_w hw 60 rfl) (by decide) P0 (rm8_5 l Z a0 hw [] a2 a3 h0 n0 (own_sz Y0) P1) (hb hby d7_2) rfl (by rw [hml]; rfl) rfl (lenOf pd__I_Lcom_example_napkintree_napkintree_balancing_MultiwayTree_Node_ rfl) rfl (by decide) (by decide) rfl rfl (by decide) (by decide) own_Same.sz (own_fixS (S2 := [(.ref a3)]) rfl (fun T1 Y1 => ?_))
  refine own_astoreN Y1 hx (pc' := 6) (Ls' := #[.val (.ref a1), .val (.ref a2), .val (.int (0 : Int32)), .val (.ref a3), .unset, .unset, .unset]) (hb hby d7_5) rfl rfl rfl ?_
  refine own_new Y1 hx (pc' := 9) (cl' := 1) (sl' := 11) hZ hown (own_w hw 44 rfl) (own_w hw 2 rfl) (own_w hw 3 rfl) (hb hby d7_6) rfl rfl rfl (by decide) (by decide) (fun T2 h2 b2 Y2 K2 le2 E2 D2 => ?_)
  refine own_dup Y2 hx (pc' := 10) (hb hby d7_9) rfl rfl ?_
  refine own_special Y2 hx (pc' := 13) (W := 1) (cl' := 1) (sl' := 11) (as' := []) (S' := [(.ref b2)]) (a := b2) rfl hZ hown (own_w hw 45 rfl) (own_w hw 5 rfl) (own_w hw 3 rfl) (own_w hw 6 rfl) (by decide) (rm1_1 l Z a0 hw [] b2 h2 n0 (own_sz Y2)) (hb hby d7_10) rfl (by rw [hml]; rfl) rfl (lenOf pd___V rfl) rfl (by decide) (by decide) rfl rfl (by decide) (by decide) own_Same.sz (own_fixS (S2 := [(.ref b2)]) rfl (fun T3 Y3 => ?_))
  refine own_astore Y3 hx (pc' := 15) (Ls' := #[.val (.ref a1), .val (.ref a2), .val (.int (0 : Int32)), .val (.ref a3), .val (.ref b2), .unset, .unset]) (hb hby d7_13) rfl rfl rfl ?_
  refine own_aload Y3 hx (pc' := 17) (hb hby d7_15) rfl rfl rfl ?_
  refine own_aloadN Y3 hx (pc' := 18) (hb hby d7_17) rfl rfl rfl ?_
  have F4 := (own_F (v := .null) P2 K2 own_nin0)
  refine own_getF Y3 hx (pc' := 21) (v := .null) hZ hown (Or.inr (own_w hw 62 rfl)) Via.refl F4 (hb hby d7_18) rfl (fun T5 Y5 => ?_)
  refine own_putF Y5 hx (pc' := 24) hZ hown (Or.inr (own_w hw 64 rfl)) Via.refl (D2 (Or.inl (own_w hw 65 rfl)) (ty := (.object zs2)) (by decide)) E2 (Or.inl (own_w hw 65 rfl)) (own_w hw 2 rfl) (ty := (.object zs2)) (by decide) rfl rfl (Nat.le_trans Z0 le2) (hb hby d7_21) rfl (fun T6 h6 Y6 K6 F6 => ?_)
  refine own_aload Y6 hx (pc' := 26) (hb hby d7_24) rfl rfl rfl ?_
  refine own_aloadN Y6 hx (pc' := 27) (hb hby d7_26) rfl rfl rfl ?_
  have D7 : a3 ≠ b2 := (Nat.ne_of_lt (Nat.lt_of_lt_of_le P4.lt le2))
  have F8 := (own_F (v := .null) (own_F (v := .null) P3 K2 own_nin0) K6 (own_nl D7 own_nin0))
  refine own_getF Y6 hx (pc' := 30) (v := .null) hZ hown (Or.inr (own_w hw 66 rfl)) Via.refl F8 (hb hby d7_27) rfl (fun T9 Y9 => ?_)
  have F10 := (own_F (v := .null) (D2 (Or.inl (own_w hw 69 rfl)) (ty := (.object zs2)) (by decide)) K6 (own_nr (sl_4 hw) own_nin0))
  have F11 := (own_E E2 K6)
  refine own_putF Y9 hx (pc' := 33) hZ hown (Or.inr (own_w hw 68 rfl)) Via.refl F10 F11 (Or.inl (own_w hw 69 rfl)) (own_w hw 2 rfl) (ty := (.object zs2)) (by decide) rfl rfl (Nat.le_trans Z0 le2) (hb hby d7_30) rfl (fun T12 h12 Y12 K12 F12 => ?_)
  refine own_aload Y12 hx (pc' := 35) (hb hby d7_33) rfl rfl rfl ?_
  refine own_aloadN Y12 hx (pc' := 36) (hb hby d7_35) rfl rfl rfl ?_
  have F13 := (own_F (v := .null) (own_F (v := .null) (own_F (v := .null) P5 K2 own_nin0) K6 (own_nl D7 own_nin0)) K12 (own_nl D7 own_nin0))
  refine own_getF Y12 hx (pc' := 39) (v := .null) hZ hown (Or.inr (own_w hw 70 rfl)) Via.refl F13 (hb hby d7_36) rfl (fun T14 Y14 => ?_)
  have F15 := (own_F (v := .null) (own_F (v := .null) (D2 (Or.inl (own_w hw 50 rfl)) (ty := (.object zs0)) (by decide)) K6 (own_nr (sl_5 hw) own_nin0)) K12 (own_nr (sl_6 hw) own_nin0))
  have F16 := (own_E F11 K12)
  refine own_putF Y14 hx (pc' := 42) hZ hown (Or.inr (own_w hw 49 rfl)) Via.refl F15 F16 (Or.inl (own_w hw 50 rfl)) (own_w hw 2 rfl) (ty := (.object zs0)) (by decide) rfl rfl (Nat.le_trans Z0 le2) (hb hby d7_39) rfl (fun T17 h17 Y17 K17 F17 => ?_)
  refine own_aload Y17 hx (pc' := 44) (hb hby d7_42) rfl rfl rfl ?_
  refine own_aloadN Y17 hx (pc' := 45) (hb hby d7_44) rfl rfl rfl ?_
  have F18 := (own_F (v := .null) (own_F (v := .null) (own_F (v := .null) (own_F (v := .null) P6 K2 own_nin0) K6 (own_nl D7 own_nin0)) K12 (own_nl D7 own_nin0)) K17 (own_nl D7 own_nin0))
  refine own_getF Y17 hx (pc' := 48) (v := .null) hZ hown (Or.inr (own_w hw 72 rfl)) Via.refl F18 (hb hby d7_45) rfl (fun T19 Y19 => ?_)
  have F20 := (own_F (v := .null) (own_F (v := .null) (own_F (v := .null) (D2 (Or.inl (own_w hw 75 rfl)) (ty := (.object zs0)) (by decide)) K6 (own_nr (sl_7 hw) own_nin0)) K12 (own_nr (sl_8 hw) own_nin0)) K17 (own_nr (sl_9 hw) own_nin0))
  have F21 := (own_E F16 K17)
  refine own_putF Y19 hx (pc' := 51) hZ hown (Or.inr (own_w hw 74 rfl)) Via.refl F20 F21 (Or.inl (own_w hw 75 rfl)) (own_w hw 2 rfl) (ty := (.object zs0)) (by decide) rfl rfl (Nat.le_trans Z0 le2) (hb hby d7_48) rfl (fun T22 h22 Y22 K22 F22 => ?_)
  refine own_aloadN Y22 hx (pc' := 52) (hb hby d7_51) rfl rfl rfl ?_
  refine own_aconstNull Y22 hx (pc' := 53) (hb hby d7_52) rfl ?_
  have F23 := (own_F (v := .null) (own_F (v := .null) F13 K17 (own_nl D7 own_nin0)) K22 (own_nl D7 own_nin0))
  have F24 := (own_E (own_E (own_E (own_E (own_E P4 K2) K6) K12) K17) K22)
  refine own_putF Y22 hx (pc' := 56) hZ hown (Or.inr (own_w hw 70 rfl)) Via.refl F23 F24 (Or.inl (own_w hw 71 rfl)) (own_w hw 2 rfl) (ty := (.object zs0)) (by decide) rfl rfl P7 (hb hby d7_53) rfl (fun T25 h25 Y25 K25 F25 => ?_)
  refine own_aloadN Y25 hx (pc' := 57) (hb hby d7_56) rfl rfl rfl ?_
  refine own_aconstNull Y25 hx (pc' := 58) (hb hby d7_57) rfl ?_
  have F26 := (own_F (v := .null) (own_F (v := .null) F18 K22 (own_nl D7 own_nin0)) K25 (own_nr (sl_10 hw) own_nin0))
  have F27 := (own_E F24 K25)
  refine own_putF Y25 hx (pc' := 61) hZ hown (Or.inr (own_w hw 72 rfl)) Via.refl F26 F27 (Or.inl (own_w hw 73 rfl)) (own_w hw 2 rfl) (ty := (.object zs0)) (by decide) rfl rfl P7 (hb hby d7_58) rfl (fun T28 h28 Y28 K28 F28 => ?_)
  refine own_aloadN Y28 hx (pc' := 62) (hb hby d7_61) rfl rfl rfl ?_
  refine own_iconst Y28 hx (pc' := 63) (x := (1 : Int32)) (hb hby d7_62) rfl (by decide) ?_
  have F30 := (own_E F27 K28)
  have F31 := (own_F (v := .null) (own_F (v := .null) (own_F (v := .null) (own_F (v := .null) (own_F (v := .null) (own_F (v := .null) (own_F (v := .null) P8 K2 own_nin0) K6 (own_nl D7 own_nin0)) K12 (own_nl D7 own_nin0)) K17 (own_nl D7 own_nin0)) K22 (own_nl D7 own_nin0)) K25 (own_nr (sl_11 hw) own_nin0)) K28 (own_nr (sl_12 hw) own_nin0))
  have F32 := (own_St (own_St (own_St (own_St (own_St (own_St (own_St P9 K2 own_all0) K6 (own_allS (own_plain E2) own_all0)) K12 (own_allS (own_plain F11) own_all0)) K17 (own_allS (own_plain F16) own_all0)) K22 (own_allS (own_plain F21) own_all0)) K25 (own_allS (own_plain F24) own_all0)) K28 (own_allS (own_plain F27) own_all0))
  refine own_virtual Y28 hx (pc' := 66) (W := 0) (cl' := 1) (sl' := 11) (as' := [(.int (1 : Int32))]) (S' := []) (a := a3) hZ hown (own_w hw 76 rfl) (own_w hw 77 rfl) (notFace_of_selects (args := #[]) (mvT hZ (own_w hw 79 rfl))) (own_w hw 79 rfl) (own_w hw 78 rfl) (own_w hw 3 rfl) (own_w hw 80 rfl) (by decide) F30 (rm9_7 l Z a0 hw [] a3 a4 h28 n0 (own_sz Y28) F31 F32) (hb hby d7_63) rfl (by rw [hml]; rfl) rfl (lenOf pd__I_Ljava_lang_Object_ rfl) rfl (by decide) (by decide) rfl rfl (by decide) (by decide) own_Same.sz (own_fixS (S2 := [.null]) rfl (fun T29 Y29 => ?_))
  refine own_astore Y29 hx (pc' := 68) (Ls' := #[.val (.ref a1), .val (.ref a2), .val (.int (0 : Int32)), .val (.ref a3), .val (.ref b2), .val .null, .unset]) (hb hby d7_66) rfl rfl rfl ?_
  refine own_aloadN Y29 hx (pc' := 69) (hb hby d7_68) rfl rfl rfl ?_
  refine own_iconst Y29 hx (pc' := 70) (x := (1 : Int32)) (hb hby d7_69) rfl (by decide) ?_
  have F34 := (own_F (v := .null) (own_F (v := .null) (own_F (v := .null) (own_F (v := .null) (own_F (v := .null) (own_F (v := .null) (own_F (v := .null) P10 K2 own_nin0) K6 (own_nl D7 own_nin0)) K12 (own_nl D7 own_nin0)) K17 (own_nl D7 own_nin0)) K22 (own_nl D7 own_nin0)) K25 (own_nr (sl_13 hw) own_nin0)) K28 (own_nr (sl_14 hw) own_nin0))
  refine own_virtual Y29 hx (pc' := 73) (W := 0) (cl' := 1) (sl' := 11) (as' := [(.int (1 : Int32))]) (S' := []) (a := a3) hZ hown (own_w hw 88 rfl) (own_w hw 89 rfl) (notFace_of_selects (args := #[]) (mvT hZ (own_w hw 91 rfl))) (own_w hw 91 rfl) (own_w hw 90 rfl) (own_w hw 3 rfl) (own_w hw 92 rfl) (by decide) F30 (rm11_8 l Z a0 hw [] a3 h28 n0 (own_sz Y29) F34) (hb hby d7_70) rfl (by rw [hml]; rfl) rfl (lenOf pd__I_Ljava_lang_Object_ rfl) rfl (by decide) (by decide) rfl rfl (by decide) (by decide) own_Same.sz (own_fixS (S2 := [.null]) rfl (fun T33 Y33 => ?_))
  refine own_astore Y33 hx (pc' := 75) (Ls' := #[.val (.ref a1), .val (.ref a2), .val (.int (0 : Int32)), .val (.ref a3), .val (.ref b2), .val .null, .val .null]) (hb hby d7_73) rfl rfl rfl ?_
  refine own_aloadN Y33 hx (pc' := 76) (hb hby d7_75) rfl rfl rfl ?_
  refine own_aconstNull Y33 hx (pc' := 77) (hb hby d7_76) rfl ?_
  refine own_putF Y33 hx (pc' := 80) hZ hown (Or.inr (own_w hw 95 rfl)) Via.refl F31 F30 (Or.inl (own_w hw 82 rfl)) (own_w hw 2 rfl) (ty := (.object zs2)) (by decide) rfl rfl P7 (hb hby d7_77) rfl (fun T35 h35 Y35 K35 F35 => ?_)
  refine own_aloadN Y35 hx (pc' := 81) (hb hby d7_80) rfl rfl rfl ?_
  refine own_aconstNull Y35 hx (pc' := 82) (hb hby d7_81) rfl ?_
  have F36 := (own_F (v := .null) (own_F (v := .null) (own_F (v := .null) (own_F (v := .null) (own_F (v := .null) (own_F (v := .null) (own_F (v := .null) F4 K6 (own_nl D7 own_nin0)) K12 (own_nl D7 own_nin0)) K17 (own_nl D7 own_nin0)) K22 (own_nl D7 own_nin0)) K25 (own_nr (sl_15 hw) own_nin0)) K28 (own_nr (sl_16 hw) own_nin0)) K35 (own_nr (sl_17 hw) own_nin0))
  have F37 := (own_E F30 K35)
  refine own_putF Y35 hx (pc' := 85) hZ hown (Or.inr (own_w hw 62 rfl)) Via.refl F36 F37 (Or.inl (own_w hw 63 rfl)) (own_w hw 2 rfl) (ty := (.object zs2)) (by decide) rfl rfl P7 (hb hby d7_82) rfl (fun T38 h38 Y38 K38 F38 => ?_)
  refine own_aloadN Y38 hx (pc' := 86) (hb hby d7_85) rfl rfl rfl ?_
  refine own_aconstNull Y38 hx (pc' := 87) (hb hby d7_86) rfl ?_
  have F39 := (own_F (v := .null) (own_F (v := .null) F34 K35 (own_nr (sl_18 hw) own_nin0)) K38 (own_nr (sl_19 hw) own_nin0))
  have F40 := (own_E F37 K38)
  refine own_putF Y38 hx (pc' := 90) hZ hown (Or.inr (own_w hw 96 rfl)) Via.refl F39 F40 (Or.inl (own_w hw 94 rfl)) (own_w hw 2 rfl) (ty := (.object zs2)) (by decide) rfl rfl P7 (hb hby d7_87) rfl (fun T41 h41 Y41 K41 F41 => ?_)
  refine own_aloadN Y41 hx (pc' := 91) (hb hby d7_90) rfl rfl rfl ?_
  refine own_aconstNull Y41 hx (pc' := 92) (hb hby d7_91) rfl ?_
  have F42 := (own_F (v := .null) (own_F (v := .null) (own_F (v := .null) (own_F (v := .null) (own_F (v := .null) (own_F (v := .null) (own_F (v := .null) (own_F (v := .null) F8 K12 (own_nl D7 own_nin0)) K17 (own_nl D7 own_nin0)) K22 (own_nl D7 own_nin0)) K25 (own_nr (sl_20 hw) own_nin0)) K28 (own_nr (sl_21 hw) own_nin0)) K35 (own_nr (sl_22 hw) own_nin0)) K38 (own_nr (sl_23 hw) own_nin0)) K41 (own_nr (sl_24 hw) own_nin0))
  have F43 := (own_E F40 K41)
  refine own_putF Y41 hx (pc' := 95) hZ hown (Or.inr (own_w hw 66 rfl)) Via.refl F42 F43 (Or.inl (own_w hw 67 rfl)) (own_w hw 2 rfl) (ty := (.object zs2)) (by decide) rfl rfl P7 (hb hby d7_92) rfl (fun T44 h44 Y44 K44 F44 => ?_)
  refine own_aloadN Y44 hx (pc' := 96) (hb hby d7_95) rfl rfl rfl ?_
  refine own_iloadN Y44 hx (pc' := 97) (hb hby d7_96) rfl rfl ?_
  refine own_aload Y44 hx (pc' := 99) (hb hby d7_97) rfl rfl rfl ?_
  refine own_aload Y44 hx (pc' := 101) (hb hby d7_99) rfl rfl rfl ?_
  refine own_iloadN Y44 hx (pc' := 102) (hb hby d7_101) rfl rfl ?_
  refine own_iconst Y44 hx (pc' := 103) (x := (1 : Int32)) (hb hby d7_102) rfl (by decide) ?_
  refine own_iadd Y44 hx (pc' := 104) (hb hby d7_103) rfl (z := (1 : Int32)) (by decide) ?_
  refine own_aload Y44 hx (pc' := 106) (hb hby d7_104) rfl rfl rfl ?_
  have F46 := (own_E (own_E (own_E (own_E (own_E (own_E (own_E (own_E (own_E (own_E (own_E P0 K2) K6) K12) K17) K22) K25) K28) K35) K38) K41) K44)
  have F47 := (own_St (own_St (own_St (own_St F32 K35 (own_allS (own_plain F30) own_all0)) K38 (own_allS (own_plain F37) own_all0)) K41 (own_allS (own_plain F40) own_all0)) K44 (own_allS (own_plain F43) own_all0))
  have D48 : a2 ≠ b2 := (Nat.ne_of_lt (Nat.lt_of_lt_of_le P0.lt le2))
  have F49 := (own_F (v := .null) (own_F (v := .null) (own_F (v := .null) (own_F (v := .null) (own_F (v := .null) (own_F (v := .null) (own_F (v := .null) (own_F (v := .null) (own_F (v := .null) (own_F (v := .null) (own_F (v := .null) P11 K2 own_nin0) K6 (own_nl D48 own_nin0)) K12 (own_nl D48 own_nin0)) K17 (own_nl D48 own_nin0)) K22 (own_nl D48 own_nin0)) K25 (own_nl P12 own_nin0)) K28 (own_nl P12 own_nin0)) K35 (own_nl P12 own_nin0)) K38 (own_nl P12 own_nin0)) K41 (own_nl P12 own_nin0)) K44 (own_nl P12 own_nin0))
  have F50 := (own_F (v := .null) (own_F (v := .null) (own_F (v := .null) (own_F (v := .null) (own_F (v := .null) (own_F (v := .null) (own_F (v := .null) (own_F (v := .null) (own_F (v := .null) (own_F (v := .null) (own_F (v := .null) P13 K2 own_nin0) K6 (own_nl D48 own_nin0)) K12 (own_nl D48 own_nin0)) K17 (own_nl D48 own_nin0)) K22 (own_nl D48 own_nin0)) K25 (own_nl P12 own_nin0)) K28 (own_nl P12 own_nin0)) K35 (own_nl P12 own_nin0)) K38 (own_nl P12 own_nin0)) K41 (own_nl P12 own_nin0)) K44 (own_nl P12 own_nin0))
  have F51 := (own_F (v := .null) (own_F (v := .null) (own_F (v := .null) (own_F (v := .null) (own_F (v := .null) (own_F (v := .null) (own_F (v := .null) (own_F (v := .null) (own_F (v := .null) (own_F (v := .null) (own_F (v := .null) P15 K2 own_nin0) K6 (own_nl D48 own_nin0)) K12 (own_nl D48 own_nin0)) K17 (own_nl D48 own_nin0)) K22 (own_nl D48 own_nin0)) K25 (own_nl P12 own_nin0)) K28 (own_nl P12 own_nin0)) K35 (own_nl P12 own_nin0)) K38 (own_nl P12 own_nin0)) K41 (own_nl P12 own_nin0)) K44 (own_nl P12 own_nin0))
  have F52 := (own_F (v := .null) (own_F (v := .null) (own_F (v := .null) (own_F (v := .null) (own_F (v := .null) (own_F (v := .null) (own_F (v := .null) (own_F (v := .null) (own_F (v := .null) (own_F (v := .null) (own_F (v := .null) P16 K2 own_nin0) K6 (own_nl D48 own_nin0)) K12 (own_nl D48 own_nin0)) K17 (own_nl D48 own_nin0)) K22 (own_nl D48 own_nin0)) K25 (own_nl P12 own_nin0)) K28 (own_nl P12 own_nin0)) K35 (own_nl P12 own_nin0)) K38 (own_nl P12 own_nin0)) K41 (own_nl P12 own_nin0)) K44 (own_nl P12 own_nin0))
  have F53 := (own_F (v := .null) (own_F (v := .null) (own_F (v := .null) (own_F (v := .null) (own_F (v := .null) (own_F (v := .null) (own_F (v := .null) (own_F (v := .null) (own_F (v := .null) (own_F (v := .null) (own_F (v := .null) P17 K2 own_nin0) K6 (own_nl D48 own_nin0)) K12 (own_nl D48 own_nin0)) K17 (own_nl D48 own_nin0)) K22 (own_nl D48 own_nin0)) K25 (own_nl P12 own_nin0)) K28 (own_nl P12 own_nin0)) K35 (own_nl P12 own_nin0)) K38 (own_nl P12 own_nin0)) K41 (own_nl P12 own_nin0)) K44 (own_nl P12 own_nin0))
  have F54 := (own_F (v := .null) (own_F (v := .null) (own_F (v := .null) (own_F (v := .null) (own_F (v := .null) (own_F (v := .null) (own_F (v := .null) (own_F (v := .null) (own_F (v := .null) (own_F (v := .null) (own_F (v := .null) P18 K2 own_nin0) K6 (own_nl D48 own_nin0)) K12 (own_nl D48 own_nin0)) K17 (own_nl D48 own_nin0)) K22 (own_nl D48 own_nin0)) K25 (own_nl P12 own_nin0)) K28 (own_nl P12 own_nin0)) K35 (own_nl P12 own_nin0)) K38 (own_nl P12 own_nin0)) K41 (own_nl P12 own_nin0)) K44 (own_nl P12 own_nin0))
  have F55 := (own_F (v := (.ref a3)) (own_F (v := (.ref a3)) (own_F (v := (.ref a3)) (own_F (v := (.ref a3)) (own_F (v := (.ref a3)) (own_F (v := (.ref a3)) (own_F (v := (.ref a3)) (own_F (v := (.ref a3)) (own_F (v := (.ref a3)) (own_F (v := (.ref a3)) (own_F (v := (.ref a3)) P1 K2 own_nin0) K6 (own_nl D48 own_nin0)) K12 (own_nl D48 own_nin0)) K17 (own_nl D48 own_nin0)) K22 (own_nl D48 own_nin0)) K25 (own_nl P12 own_nin0)) K28 (own_nl P12 own_nin0)) K35 (own_nl P12 own_nin0)) K38 (own_nl P12 own_nin0)) K41 (own_nl P12 own_nin0)) K44 (own_nl P12 own_nin0))
  have F56 := (own_F (v := .null) (own_F (v := .null) (own_F (v := .null) (own_F (v := .null) (own_F (v := .null) (own_F (v := .null) (own_F (v := .null) (own_F (v := .null) (own_F (v := .null) (own_F (v := .null) (own_F (v := .null) P19 K2 own_nin0) K6 (own_nl D48 own_nin0)) K12 (own_nl D48 own_nin0)) K17 (own_nl D48 own_nin0)) K22 (own_nl D48 own_nin0)) K25 (own_nl P12 own_nin0)) K28 (own_nl P12 own_nin0)) K35 (own_nl P12 own_nin0)) K38 (own_nl P12 own_nin0)) K41 (own_nl P12 own_nin0)) K44 (own_nl P12 own_nin0))
  have F57 := (own_F (v := .null) (own_F (v := .null) (own_F (v := .null) (own_F (v := .null) (own_F (v := .null) (own_F (v := .null) (own_F (v := .null) (own_F (v := .null) (own_F (v := .null) (own_F (v := .null) (own_F (v := .null) P20 K2 own_nin0) K6 (own_nl D48 own_nin0)) K12 (own_nl D48 own_nin0)) K17 (own_nl D48 own_nin0)) K22 (own_nl D48 own_nin0)) K25 (own_nl P12 own_nin0)) K28 (own_nl P12 own_nin0)) K35 (own_nl P12 own_nin0)) K38 (own_nl P12 own_nin0)) K41 (own_nl P12 own_nin0)) K44 (own_nl P12 own_nin0))
  have F58 := (own_F (v := .null) (own_F (v := .null) (own_F (v := .null) (own_F (v := .null) (own_F (v := .null) (own_F (v := .null) (own_F (v := .null) (own_F (v := .null) (own_F (v := .null) (own_F (v := .null) (own_F (v := .null) P21 K2 own_nin0) K6 (own_nl D48 own_nin0)) K12 (own_nl D48 own_nin0)) K17 (own_nl D48 own_nin0)) K22 (own_nl D48 own_nin0)) K25 (own_nl P12 own_nin0)) K28 (own_nl P12 own_nin0)) K35 (own_nl P12 own_nin0)) K38 (own_nl P12 own_nin0)) K41 (own_nl P12 own_nin0)) K44 (own_nl P12 own_nin0))
  refine own_virtual Y44 hx (pc' := 109) (W := 0) (cl' := 1) (sl' := 11) (as' := [(.int (0 : Int32)), .null, .null, (.int (1 : Int32)), (.ref b2)]) (S' := []) (a := a2) hZ hown (own_w hw 97 rfl) (own_w hw 98 rfl) (notFace_of_selects (args := #[]) (mvT hZ (own_w hw 100 rfl))) (own_w hw 100 rfl) (own_w hw 99 rfl) (own_w hw 3 rfl) (own_w hw 101 rfl) (by decide) F46 (rm12_13 l Z a0 hw [] a2 b2 a4 a3 h44 n0 (own_sz Y44) F46 F47 F49 F50 P14 F51 F52 F53 F54 F55 F56 F57 F58) (hb hby d7_106) rfl (by rw [hml]; rfl) rfl (lenOf pd__ILjava_lang_Object_Ljava_lang_Object_ILcom_example_napkintree_napkintree_balancing_MultiwayTree_Node__V rfl) rfl (by decide) (by decide) rfl rfl (by decide) (by decide) P12_13_sz (own_fixR (S2 := []) rfl (fun T45 h45 Y45 R45 => ?_))
  obtain ⟨K45, G45_0, G45_1, G45_2, G45_3, G45_4, G45_5, G45_6, G45_7, G45_8⟩ := R45
  refine own_aloadN Y45 hx (pc' := 110) (hb hby d7_109) rfl rfl rfl ?_
  refine own_aloadN Y45 hx (pc' := 111) (hb hby d7_110) rfl rfl rfl ?_
  have F59 := (own_St (own_St (own_St (own_St (own_St (own_St (own_St (own_St (own_St (own_St (own_St (own_St P22 K2 own_all0) K6 (own_allS (own_plain E2) own_all0)) K12 (own_allS (own_plain F11) own_all0)) K17 (own_allS (own_plain F16) own_all0)) K22 (own_allS (own_plain F21) own_all0)) K25 (own_allS (own_plain F24) own_all0)) K28 (own_allS (own_plain F27) own_all0)) K35 (own_allS (own_plain F30) own_all0)) K38 (own_allS (own_plain F37) own_all0)) K41 (own_allS (own_plain F40) own_all0)) K44 (own_allS (own_plain F43) own_all0)) K45 (own_allS (own_plain F46) (own_allS (own_plain F46) (own_allS (own_plain F46) (own_allS (own_plain F46) (own_allS (own_plain F46) (own_allS (own_plain F46) (own_allS (own_plain F46) (own_allS (own_plain F46) (own_allS (own_plain F46) own_all0))))))))))
  refine own_getS Y45 hx (pc' := 114) (v := (.ref a5)) hZ hown (host := "") (Or.inl (own_w hw 126 rfl)) Via.refl F59 (hb hby d7_111) rfl (fun T60 Y60 => ?_)
  have F62 := (own_E (own_E (own_E (own_E (own_E (own_E (own_E (own_E (own_E (own_E (own_E (own_E P23 K2) K6) K12) K17) K22) K25) K28) K35) K38) K41) K44) K45)
  have D63 : a1 ≠ b2 := (Nat.ne_of_lt (Nat.lt_of_lt_of_le P23.lt le2))
  have F64 := (own_E (own_E (own_E (own_E (own_E P23 K2) K6) K12) K17) K22)
  have D65 : a1 ≠ a3 := (ne_exa F64 F24 (by decide))
  have F66 := (own_E (own_E (own_E (own_E (own_E (own_E F64 K25) K28) K35) K38) K41) K44)
  have D67 : a1 ≠ a2 := (ne_exa F66 F46 (by decide))
  have F68 := (own_F (v := (.int (0 : Int32))) (own_F (v := (.int (0 : Int32))) (own_F (v := (.int (0 : Int32))) (own_F (v := (.int (0 : Int32))) (own_F (v := (.int (0 : Int32))) (own_F (v := (.int (0 : Int32))) (own_F (v := (.int (0 : Int32))) (own_F (v := (.int (0 : Int32))) (own_F (v := (.int (0 : Int32))) (own_F (v := (.int (0 : Int32))) (own_F (v := (.int (0 : Int32))) (own_F (v := (.int (0 : Int32))) P24 K2 own_nin0) K6 (own_nl D63 own_nin0)) K12 (own_nl D63 own_nin0)) K17 (own_nl D63 own_nin0)) K22 (own_nl D63 own_nin0)) K25 (own_nl D65 own_nin0)) K28 (own_nl D65 own_nin0)) K35 (own_nl D65 own_nin0)) K38 (own_nl D65 own_nin0)) K41 (own_nl D65 own_nin0)) K44 (own_nl D65 own_nin0)) K45 (own_nl D67 (own_nl D67 (own_nl D67 (own_nl D67 (own_nl D67 (own_nl D67 (own_nl D67 (own_nl D67 (own_nl D67 own_nin0))))))))))
  have F69 := (own_St (own_St (own_St (own_St (own_St (own_St (own_St (own_St (own_St (own_St (own_St (own_St P25 K2 own_all0) K6 (own_allS (own_plain E2) own_all0)) K12 (own_allS (own_plain F11) own_all0)) K17 (own_allS (own_plain F16) own_all0)) K22 (own_allS (own_plain F21) own_all0)) K25 (own_allS (own_plain F24) own_all0)) K28 (own_allS (own_plain F27) own_all0)) K35 (own_allS (own_plain F30) own_all0)) K38 (own_allS (own_plain F37) own_all0)) K41 (own_allS (own_plain F40) own_all0)) K44 (own_allS (own_plain F43) own_all0)) K45 (own_allS (own_plain F46) (own_allS (own_plain F46) (own_allS (own_plain F46) (own_allS (own_plain F46) (own_allS (own_plain F46) (own_allS (own_plain F46) (own_allS (own_plain F46) (own_allS (own_plain F46) (own_allS (own_plain F46) own_all0))))))))))
  have F70 := (own_E (own_E (own_E (own_E (own_E (own_E (own_E (own_E (own_E (own_E (own_E (own_E P26 K2) K6) K12) K17) K22) K25) K28) K35) K38) K41) K44) K45)
  have D71 : a5 ≠ b2 := (Nat.ne_of_lt (Nat.lt_of_lt_of_le P26.lt le2))
  have F72 := (own_E (own_E (own_E (own_E (own_E P26 K2) K6) K12) K17) K22)
  have D73 : a5 ≠ a3 := (ne_exa F72 F24 (by decide))
  have F74 := (own_E (own_E (own_E (own_E (own_E (own_E F72 K25) K28) K35) K38) K41) K44)
  have D75 : a5 ≠ a2 := (ne_exa F74 F46 (by decide))
  have F76 := (own_F (v := (.int (1 : Int32))) (own_F (v := (.int (1 : Int32))) (own_F (v := (.int (1 : Int32))) (own_F (v := (.int (1 : Int32))) (own_F (v := (.int (1 : Int32))) (own_F (v := (.int (1 : Int32))) (own_F (v := (.int (1 : Int32))) (own_F (v := (.int (1 : Int32))) (own_F (v := (.int (1 : Int32))) (own_F (v := (.int (1 : Int32))) (own_F (v := (.int (1 : Int32))) (own_F (v := (.int (1 : Int32))) P27 K2 own_nin0) K6 (own_nl D71 own_nin0)) K12 (own_nl D71 own_nin0)) K17 (own_nl D71 own_nin0)) K22 (own_nl D71 own_nin0)) K25 (own_nl D73 own_nin0)) K28 (own_nl D73 own_nin0)) K35 (own_nl D73 own_nin0)) K38 (own_nl D73 own_nin0)) K41 (own_nl D73 own_nin0)) K44 (own_nl D73 own_nin0)) K45 (own_nl D75 (own_nl D75 (own_nl D75 (own_nl D75 (own_nl D75 (own_nl D75 (own_nl D75 (own_nl D75 (own_nl D75 own_nin0))))))))))
  have F77 := (own_F (v := (.int (0 : Int32))) (own_F (v := (.int (0 : Int32))) (own_F (v := (.int (0 : Int32))) (own_F (v := (.int (0 : Int32))) (own_F (v := (.int (0 : Int32))) (own_F (v := (.int (0 : Int32))) (own_F (v := (.int (0 : Int32))) (own_F (v := (.int (0 : Int32))) (own_F (v := (.int (0 : Int32))) (own_F (v := (.int (0 : Int32))) (own_F (v := (.int (0 : Int32))) (own_F (v := (.int (0 : Int32))) P28 K2 own_nin0) K6 (own_nl D7 own_nin0)) K12 (own_nl D7 own_nin0)) K17 (own_nl D7 own_nin0)) K22 (own_nl D7 own_nin0)) K25 (own_nr (sl_94 hw) own_nin0)) K28 (own_nr (sl_95 hw) own_nin0)) K35 (own_nr (sl_96 hw) own_nin0)) K38 (own_nr (sl_97 hw) own_nin0)) K41 (own_nr (sl_98 hw) own_nin0)) K44 (own_nr (sl_99 hw) own_nin0)) K45 (own_nl (Ne.symm P12) (own_nl (Ne.symm P12) (own_nl (Ne.symm P12) (own_nl (Ne.symm P12) (own_nl (Ne.symm P12) (own_nl (Ne.symm P12) (own_nl (Ne.symm P12) (own_nl (Ne.symm P12) (own_nl (Ne.symm P12) own_nin0))))))))))
  have F78 := (own_E (own_E F43 K44) K45)
  refine own_private Y60 hx (pc' := 117) (W := 0) (cl' := 1) (sl' := 11) (as' := [(.ref a3), (.ref a5)]) (S' := []) (a := a1) hZ hown (own_w hw 129 rfl) (own_w hw 130 rfl) (own_selP hZ (Cond.sameMethod_class (own_w hw 134 rfl)) (own_w hw 131 rfl) (own_w hw 130 rfl) (by decide)) (own_w hw 131 rfl) (own_w hw 19 rfl) (own_w hw 132 rfl) (by decide) F62 (rm17_16 l Z a0 hw [] a1 a3 a5 h45 n0 (own_sz Y60) F62 F68 F69 F70 F76 F77 F78 P7) (hb hby d7_114) rfl (by rw [hml]; rfl) rfl (lenOf pd__Lcom_example_napkintree_napkintree_balancing_MultiwayTree_Node_Lcom_example_napkintree_napkintree_balancing_NodeMark__V rfl) rfl (by decide) (by decide) rfl rfl (by decide) (by decide) P17_16_sz (own_fixR (S2 := []) rfl (fun T61 h61 Y61 R61 => ?_))
  obtain ⟨K61, G61_0⟩ := R61
  refine own_aloadN Y61 hx (pc' := 118) (hb hby d7_117) rfl rfl rfl ?_
  refine own_aload Y61 hx (pc' := 120) (hb hby d7_118) rfl rfl rfl ?_
  have F79 := (own_St F59 K61 (own_allS (own_plain F78) own_all0))
  refine own_getS Y61 hx (pc' := 123) (v := (.ref a5)) hZ hown (host := "") (Or.inl (own_w hw 126 rfl)) Via.refl F79 (hb hby d7_120) rfl (fun T80 Y80 => ?_)
  have F82 := (own_E F62 K61)
  have F83 := (own_F (v := (.int (0 : Int32))) F68 K61 (own_nl D65 own_nin0))
  have F84 := (own_St F69 K61 (own_allS (own_plain F78) own_all0))
  have F85 := (own_E F70 K61)
  have F86 := (own_F (v := (.int (1 : Int32))) F76 K61 (own_nl D73 own_nin0))
  have F87 := (own_F (v := (.int (0 : Int32))) (own_F (v := (.int (0 : Int32))) (own_F (v := (.int (0 : Int32))) (own_F (v := (.int (0 : Int32))) (own_F (v := (.int (0 : Int32))) (own_F (v := (.int (0 : Int32))) (own_F (v := (.int (0 : Int32))) (own_F (v := (.int (0 : Int32))) (own_F (v := (.int (0 : Int32))) (own_F (v := (.int (0 : Int32))) (own_F (v := (.int (0 : Int32))) (own_F (v := (.int (0 : Int32))) (D2 (Or.inl (own_w hw 153 rfl)) (ty := .int) (by decide)) K6 (own_nr (sl_100 hw) own_nin0)) K12 (own_nr (sl_101 hw) own_nin0)) K17 (own_nr (sl_102 hw) own_nin0)) K22 (own_nr (sl_103 hw) own_nin0)) K25 (own_nl (Ne.symm D7) own_nin0)) K28 (own_nl (Ne.symm D7) own_nin0)) K35 (own_nl (Ne.symm D7) own_nin0)) K38 (own_nl (Ne.symm D7) own_nin0)) K41 (own_nl (Ne.symm D7) own_nin0)) K44 (own_nl (Ne.symm D7) own_nin0)) K45 (own_nl (Ne.symm D48) (own_nl (Ne.symm D48) (own_nl (Ne.symm D48) (own_nl (Ne.symm D48) (own_nl (Ne.symm D48) (own_nl (Ne.symm D48) (own_nl (Ne.symm D48) (own_nl (Ne.symm D48) (own_nl (Ne.symm D48) own_nin0)))))))))) K61 (own_nl (Ne.symm D7) own_nin0))
  have F88 := (own_E (own_E (own_E (own_E (own_E (own_E (own_E (own_E (own_E F21 K22) K25) K28) K35) K38) K41) K44) K45) K61)
  refine own_private Y80 hx (pc' := 126) (W := 0) (cl' := 1) (sl' := 11) (as' := [(.ref b2), (.ref a5)]) (S' := []) (a := a1) hZ hown (own_w hw 129 rfl) (own_w hw 130 rfl) (own_selP hZ (Cond.sameMethod_class (own_w hw 134 rfl)) (own_w hw 131 rfl) (own_w hw 130 rfl) (by decide)) (own_w hw 131 rfl) (own_w hw 19 rfl) (own_w hw 132 rfl) (by decide) F82 (rm17_16 l Z a0 hw [] a1 b2 a5 h61 n0 (own_sz Y80) F82 F83 F84 F85 F86 F87 F88 (Nat.le_trans Z0 le2)) (hb hby d7_123) rfl (by rw [hml]; rfl) rfl (lenOf pd__Lcom_example_napkintree_napkintree_balancing_MultiwayTree_Node_Lcom_example_napkintree_napkintree_balancing_NodeMark__V rfl) rfl (by decide) (by decide) rfl rfl (by decide) (by decide) P17_16_sz (own_fixR (S2 := []) rfl (fun T81 h81 Y81 R81 => ?_))
  obtain ⟨K81, G81_0⟩ := R81
  refine own_aloadN Y81 hx (pc' := 127) (hb hby d7_126) rfl rfl rfl ?_
  refine own_aloadN Y81 hx (pc' := 128) (hb hby d7_127) rfl rfl rfl ?_
  have F89 := (own_St (own_St (own_St (own_St (own_St (own_St (own_St (own_St (own_St (own_St (own_St (own_St (own_St (own_St P29 K2 own_all0) K6 (own_allS (own_plain E2) own_all0)) K12 (own_allS (own_plain F11) own_all0)) K17 (own_allS (own_plain F16) own_all0)) K22 (own_allS (own_plain F21) own_all0)) K25 (own_allS (own_plain F24) own_all0)) K28 (own_allS (own_plain F27) own_all0)) K35 (own_allS (own_plain F30) own_all0)) K38 (own_allS (own_plain F37) own_all0)) K41 (own_allS (own_plain F40) own_all0)) K44 (own_allS (own_plain F43) own_all0)) K45 (own_allS (own_plain F46) (own_allS (own_plain F46) (own_allS (own_plain F46) (own_allS (own_plain F46) (own_allS (own_plain F46) (own_allS (own_plain F46) (own_allS (own_plain F46) (own_allS (own_plain F46) (own_allS (own_plain F46) own_all0)))))))))) K61 (own_allS (own_plain F78) own_all0)) K81 (own_allS (own_plain F88) own_all0))
  refine own_getS Y81 hx (pc' := 131) (v := (.ref a6)) hZ hown (host := "") (Or.inl (own_w hw 154 rfl)) Via.refl F89 (hb hby d7_128) rfl (fun T90 Y90 => ?_)
  have F92 := (own_E F82 K81)
  have F93 := (own_F (v := (.int (0 : Int32))) F83 K81 (own_nl D63 own_nin0))
  have F94 := (own_St F84 K81 (own_allS (own_plain F88) own_all0))
  have F95 := (own_E (own_E (own_E (own_E (own_E (own_E (own_E (own_E (own_E (own_E (own_E (own_E (own_E (own_E P30 K2) K6) K12) K17) K22) K25) K28) K35) K38) K41) K44) K45) K61) K81)
  have D96 : a6 ≠ b2 := (Nat.ne_of_lt (Nat.lt_of_lt_of_le P30.lt le2))
  have F97 := (own_E (own_E (own_E (own_E (own_E P30 K2) K6) K12) K17) K22)
  have D98 : a6 ≠ a3 := (ne_exa F97 F24 (by decide))
  have F99 := (own_E (own_E (own_E (own_E (own_E (own_E F97 K25) K28) K35) K38) K41) K44)
  have D100 : a6 ≠ a2 := (ne_exa F99 F46 (by decide))
  have F101 := (own_F (v := (.int (0 : Int32))) (own_F (v := (.int (0 : Int32))) (own_F (v := (.int (0 : Int32))) (own_F (v := (.int (0 : Int32))) (own_F (v := (.int (0 : Int32))) (own_F (v := (.int (0 : Int32))) (own_F (v := (.int (0 : Int32))) (own_F (v := (.int (0 : Int32))) (own_F (v := (.int (0 : Int32))) (own_F (v := (.int (0 : Int32))) (own_F (v := (.int (0 : Int32))) (own_F (v := (.int (0 : Int32))) (own_F (v := (.int (0 : Int32))) (own_F (v := (.int (0 : Int32))) P31 K2 own_nin0) K6 (own_nl D96 own_nin0)) K12 (own_nl D96 own_nin0)) K17 (own_nl D96 own_nin0)) K22 (own_nl D96 own_nin0)) K25 (own_nl D98 own_nin0)) K28 (own_nl D98 own_nin0)) K35 (own_nl D98 own_nin0)) K38 (own_nl D98 own_nin0)) K41 (own_nl D98 own_nin0)) K44 (own_nl D98 own_nin0)) K45 (own_nl D100 (own_nl D100 (own_nl D100 (own_nl D100 (own_nl D100 (own_nl D100 (own_nl D100 (own_nl D100 (own_nl D100 own_nin0)))))))))) K61 (own_nl D98 own_nin0)) K81 (own_nl D96 own_nin0))
  have F102 := (own_F (v := (.int (0 : Int32))) (own_F (v := (.int (0 : Int32))) (own_F (v := (.int (0 : Int32))) (own_F (v := (.int (0 : Int32))) (own_F (v := (.int (0 : Int32))) (own_F (v := (.int (0 : Int32))) (own_F (v := (.int (0 : Int32))) (own_F (v := (.int (0 : Int32))) (own_F (v := (.int (0 : Int32))) (own_F (v := (.int (0 : Int32))) (own_F (v := (.int (0 : Int32))) (own_F (v := (.int (0 : Int32))) (own_F (v := (.int (0 : Int32))) (own_F (v := (.int (0 : Int32))) P32 K2 own_nin0) K6 (own_nl D48 own_nin0)) K12 (own_nl D48 own_nin0)) K17 (own_nl D48 own_nin0)) K22 (own_nl D48 own_nin0)) K25 (own_nl P12 own_nin0)) K28 (own_nl P12 own_nin0)) K35 (own_nl P12 own_nin0)) K38 (own_nl P12 own_nin0)) K41 (own_nl P12 own_nin0)) K44 (own_nl P12 own_nin0)) K45 (own_nr (sl_97 hw) (own_nr (sl_99 hw) (own_nr (sl_96 hw) (own_nr (sl_98 hw) (own_nr (sl_100 hw) (own_nr (sl_101 hw) (own_nr (sl_95 hw) (own_nr (sl_94 hw) (own_nr (sl_103 hw) own_nin0)))))))))) K61 (own_nl P12 own_nin0)) K81 (own_nl D48 own_nin0))
  have F103 := (own_E (own_E (own_E F46 K45) K61) K81)
  refine own_private Y90 hx (pc' := 134) (W := 0) (cl' := 1) (sl' := 11) (as' := [(.ref a2), (.ref a6)]) (S' := []) (a := a1) hZ hown (own_w hw 129 rfl) (own_w hw 130 rfl) (own_selP hZ (Cond.sameMethod_class (own_w hw 134 rfl)) (own_w hw 131 rfl) (own_w hw 130 rfl) (by decide)) (own_w hw 131 rfl) (own_w hw 19 rfl) (own_w hw 132 rfl) (by decide) F92 (rm17_18 l Z a0 hw [] a1 a2 a6 h81 n0 (own_sz Y90) F92 F93 F94 F95 F101 F102 F103 P14) (hb hby d7_131) rfl (by rw [hml]; rfl) rfl (lenOf pd__Lcom_example_napkintree_napkintree_balancing_MultiwayTree_Node_Lcom_example_napkintree_napkintree_balancing_NodeMark__V rfl) rfl (by decide) (by decide) rfl rfl (by decide) (by decide) P17_18_sz (own_fixR (S2 := []) rfl (fun T91 h91 Y91 R91 => ?_))
  obtain ⟨K91, G91_0⟩ := R91
  have KC104 : own_Kp h0 h91 [(a3, Jvm.RoadKit.slotOf Z zs0 "child2" zs16), (a3, Jvm.RoadKit.slotOf Z zs0 "child3" zs16), (a3, Jvm.RoadKit.slotOf Z zs0 "key1" zs1), (a3, Jvm.RoadKit.slotOf Z zs0 "key2" zs1), (a3, Jvm.RoadKit.slotOf Z zs0 "value1" zs1), (a3, Jvm.RoadKit.slotOf Z zs0 "value2" zs1), (a2, Jvm.RoadKit.slotOf Z zs0 "key2" zs1), (a2, Jvm.RoadKit.slotOf Z zs0 "value2" zs1), (a2, Jvm.RoadKit.slotOf Z zs0 "key1" zs1), (a2, Jvm.RoadKit.slotOf Z zs0 "value1" zs1), (a2, Jvm.RoadKit.slotOf Z zs0 "key0" zs1), (a2, Jvm.RoadKit.slotOf Z zs0 "value0" zs1), (a2, Jvm.RoadKit.slotOf Z zs0 "child3" zs16), (a2, Jvm.RoadKit.slotOf Z zs0 "child2" zs16), (a2, Jvm.RoadKit.slotOf Z zs0 "child1" zs16), (a3, Jvm.RoadKit.slotOf Z zs0 "mark" "I"), (a2, Jvm.RoadKit.slotOf Z zs0 "mark" "I")] := ((((((((((((((((own_Kp.refl h0 [(a3, Jvm.RoadKit.slotOf Z zs0 "child2" zs16), (a3, Jvm.RoadKit.slotOf Z zs0 "child3" zs16), (a3, Jvm.RoadKit.slotOf Z zs0 "key1" zs1), (a3, Jvm.RoadKit.slotOf Z zs0 "key2" zs1), (a3, Jvm.RoadKit.slotOf Z zs0 "value1" zs1), (a3, Jvm.RoadKit.slotOf Z zs0 "value2" zs1), (a2, Jvm.RoadKit.slotOf Z zs0 "key2" zs1), (a2, Jvm.RoadKit.slotOf Z zs0 "value2" zs1), (a2, Jvm.RoadKit.slotOf Z zs0 "key1" zs1), (a2, Jvm.RoadKit.slotOf Z zs0 "value1" zs1), (a2, Jvm.RoadKit.slotOf Z zs0 "key0" zs1), (a2, Jvm.RoadKit.slotOf Z zs0 "value0" zs1), (a2, Jvm.RoadKit.slotOf Z zs0 "child3" zs16), (a2, Jvm.RoadKit.slotOf Z zs0 "child2" zs16), (a2, Jvm.RoadKit.slotOf Z zs0 "child1" zs16), (a3, Jvm.RoadKit.slotOf Z zs0 "mark" "I"), (a2, Jvm.RoadKit.slotOf Z zs0 "mark" "I")]).trans K2 own_all0).trans K6 (own_allS (Or.inr le2) own_all0)).trans K12 (own_allS (Or.inr le2) own_all0)).trans K17 (own_allS (Or.inr le2) own_all0)).trans K22 (own_allS (Or.inr le2) own_all0)).trans K25 (own_allS (Or.inl (List.mem_of_getElem? (i := 0) rfl)) own_all0)).trans K28 (own_allS (Or.inl (List.mem_of_getElem? (i := 1) rfl)) own_all0)).trans K35 (own_allS (Or.inl (List.mem_of_getElem? (i := 2) rfl)) own_all0)).trans K38 (own_allS (Or.inl (List.mem_of_getElem? (i := 3) rfl)) own_all0)).trans K41 (own_allS (Or.inl (List.mem_of_getElem? (i := 4) rfl)) own_all0)).trans K44 (own_allS (Or.inl (List.mem_of_getElem? (i := 5) rfl)) own_all0)).trans K45 (own_allS (Or.inl (List.mem_of_getElem? (i := 6) rfl)) (own_allS (Or.inl (List.mem_of_getElem? (i := 7) rfl)) (own_allS (Or.inl (List.mem_of_getElem? (i := 8) rfl)) (own_allS (Or.inl (List.mem_of_getElem? (i := 9) rfl)) (own_allS (Or.inl (List.mem_of_getElem? (i := 10) rfl)) (own_allS (Or.inl (List.mem_of_getElem? (i := 11) rfl)) (own_allS (Or.inl (List.mem_of_getElem? (i := 12) rfl)) (own_allS (Or.inl (List.mem_of_getElem? (i := 13) rfl)) (own_allS (Or.inl (List.mem_of_getElem? (i := 14) rfl)) own_all0)))))))))).trans K61 (own_allS (Or.inl (List.mem_of_getElem? (i := 15) rfl)) own_all0)).trans K81 (own_allS (Or.inr le2) own_all0)).trans K91 (own_allS (Or.inl (List.mem_of_getElem? (i := 16) rfl)) own_all0))
  have F105 := (own_F (v := .null) (own_F (v := .null) (own_F (v := .null) (own_F (v := .null) (own_F (v := .null) (own_F (v := .null) (own_F (v := .null) (own_F (v := .null) (own_F (v := .null) F25 K28 (own_nr (sl_77 hw) own_nin0)) K35 (own_nr (sl_61 hw) own_nin0)) K38 (own_nr (sl_59 hw) own_nin0)) K41 (own_nr (sl_62 hw) own_nin0)) K44 (own_nr (sl_60 hw) own_nin0)) K45 (own_nl (Ne.symm P12) (own_nl (Ne.symm P12) (own_nl (Ne.symm P12) (own_nl (Ne.symm P12) (own_nl (Ne.symm P12) (own_nl (Ne.symm P12) (own_nl (Ne.symm P12) (own_nl (Ne.symm P12) (own_nl (Ne.symm P12) own_nin0)))))))))) K61 (own_nr (sl_104 hw) own_nin0)) K81 (own_nl D7 own_nin0)) K91 (own_nl (Ne.symm P12) own_nin0))
  have F106 := (own_F (v := .null) (own_F (v := .null) (own_F (v := .null) (own_F (v := .null) (own_F (v := .null) (own_F (v := .null) (own_F (v := .null) (own_F (v := .null) F28 K35 (own_nr (sl_68 hw) own_nin0)) K38 (own_nr (sl_66 hw) own_nin0)) K41 (own_nr (sl_69 hw) own_nin0)) K44 (own_nr (sl_67 hw) own_nin0)) K45 (own_nl (Ne.symm P12) (own_nl (Ne.symm P12) (own_nl (Ne.symm P12) (own_nl (Ne.symm P12) (own_nl (Ne.symm P12) (own_nl (Ne.symm P12) (own_nl (Ne.symm P12) (own_nl (Ne.symm P12) (own_nl (Ne.symm P12) own_nin0)))))))))) K61 (own_nr (sl_105 hw) own_nin0)) K81 (own_nl D7 own_nin0)) K91 (own_nl (Ne.symm P12) own_nin0))
  have F107 := (own_F (v := .null) (own_F (v := .null) (own_F (v := .null) (own_F (v := .null) (own_F (v := .null) (own_F (v := .null) (own_F (v := .null) F35 K38 (own_nr (sl_32 hw) own_nin0)) K41 (own_nr (sl_48 hw) own_nin0)) K44 (own_nr (sl_33 hw) own_nin0)) K45 (own_nl (Ne.symm P12) (own_nl (Ne.symm P12) (own_nl (Ne.symm P12) (own_nl (Ne.symm P12) (own_nl (Ne.symm P12) (own_nl (Ne.symm P12) (own_nl (Ne.symm P12) (own_nl (Ne.symm P12) (own_nl (Ne.symm P12) own_nin0)))))))))) K61 (own_nr (sl_106 hw) own_nin0)) K81 (own_nl D7 own_nin0)) K91 (own_nl (Ne.symm P12) own_nin0))
  have F108 := (own_F (v := .null) (own_F (v := .null) (own_F (v := .null) (own_F (v := .null) (own_F (v := .null) (own_F (v := .null) F38 K41 (own_nr (sl_43 hw) own_nin0)) K44 (own_nr (sl_42 hw) own_nin0)) K45 (own_nl (Ne.symm P12) (own_nl (Ne.symm P12) (own_nl (Ne.symm P12) (own_nl (Ne.symm P12) (own_nl (Ne.symm P12) (own_nl (Ne.symm P12) (own_nl (Ne.symm P12) (own_nl (Ne.symm P12) (own_nl (Ne.symm P12) own_nin0)))))))))) K61 (own_nr (sl_107 hw) own_nin0)) K81 (own_nl D7 own_nin0)) K91 (own_nl (Ne.symm P12) own_nin0))
  have F109 := (own_F (v := .null) (own_F (v := .null) (own_F (v := .null) (own_F (v := .null) (own_F (v := .null) F41 K44 (own_nr (sl_38 hw) own_nin0)) K45 (own_nl (Ne.symm P12) (own_nl (Ne.symm P12) (own_nl (Ne.symm P12) (own_nl (Ne.symm P12) (own_nl (Ne.symm P12) (own_nl (Ne.symm P12) (own_nl (Ne.symm P12) (own_nl (Ne.symm P12) (own_nl (Ne.symm P12) own_nin0)))))))))) K61 (own_nr (sl_108 hw) own_nin0)) K81 (own_nl D7 own_nin0)) K91 (own_nl (Ne.symm P12) own_nin0))
  have F110 := (own_F (v := .null) (own_F (v := .null) (own_F (v := .null) (own_F (v := .null) F44 K45 (own_nl (Ne.symm P12) (own_nl (Ne.symm P12) (own_nl (Ne.symm P12) (own_nl (Ne.symm P12) (own_nl (Ne.symm P12) (own_nl (Ne.symm P12) (own_nl (Ne.symm P12) (own_nl (Ne.symm P12) (own_nl (Ne.symm P12) own_nin0)))))))))) K61 (own_nr (sl_109 hw) own_nin0)) K81 (own_nl D7 own_nin0)) K91 (own_nl (Ne.symm P12) own_nin0))
  have F111 := (own_F (v := .null) (own_F (v := .null) (own_F (v := .null) G45_0 K61 (own_nl P12 own_nin0)) K81 (own_nl D48 own_nin0)) K91 (own_nr (sl_107 hw) own_nin0))
  have F112 := (own_F (v := .null) (own_F (v := .null) (own_F (v := .null) G45_1 K61 (own_nl P12 own_nin0)) K81 (own_nl D48 own_nin0)) K91 (own_nr (sl_109 hw) own_nin0))
  have F113 := (own_F (v := .null) (own_F (v := .null) (own_F (v := .null) G45_2 K61 (own_nl P12 own_nin0)) K81 (own_nl D48 own_nin0)) K91 (own_nr (sl_106 hw) own_nin0))
  have F114 := (own_F (v := .null) (own_F (v := .null) (own_F (v := .null) G45_3 K61 (own_nl P12 own_nin0)) K81 (own_nl D48 own_nin0)) K91 (own_nr (sl_108 hw) own_nin0))
  have F115 := (own_F (v := (.ref a4)) (own_F (v := (.ref a4)) (own_F (v := (.ref a4)) G45_4 K61 (own_nl P12 own_nin0)) K81 (own_nl D48 own_nin0)) K91 (own_nr (sl_110 hw) own_nin0))
  have F116 := (own_F (v := .null) (own_F (v := .null) (own_F (v := .null) G45_5 K61 (own_nl P12 own_nin0)) K81 (own_nl D48 own_nin0)) K91 (own_nr (sl_111 hw) own_nin0))
  have F117 := (own_F (v := .null) (own_F (v := .null) (own_F (v := .null) G45_6 K61 (own_nl P12 own_nin0)) K81 (own_nl D48 own_nin0)) K91 (own_nr (sl_105 hw) own_nin0))
  have F118 := (own_F (v := .null) (own_F (v := .null) (own_F (v := .null) G45_7 K61 (own_nl P12 own_nin0)) K81 (own_nl D48 own_nin0)) K91 (own_nr (sl_104 hw) own_nin0))
  have F119 := (own_F (v := (.ref b2)) (own_F (v := (.ref b2)) (own_F (v := (.ref b2)) G45_8 K61 (own_nl P12 own_nin0)) K81 (own_nl D48 own_nin0)) K91 (own_nr (sl_112 hw) own_nin0))
  have F120 := (own_F (v := (.int (2 : Int32))) (own_F (v := (.int (2 : Int32))) G61_0 K81 (own_nl D7 own_nin0)) K91 (own_nl (Ne.symm P12) own_nin0))
  have F121 := (own_E (own_E F88 K81) K91)
  have F122 := (own_F (v := .null) (own_F (v := .null) (own_F (v := .null) (own_F (v := .null) (own_F (v := .null) (own_F (v := .null) (own_F (v := .null) (own_F (v := .null) (own_F (v := .null) (own_F (v := .null) (own_F (v := .null) F17 K22 (own_nr (sl_113 hw) own_nin0)) K25 (own_nl (Ne.symm D7) own_nin0)) K28 (own_nl (Ne.symm D7) own_nin0)) K35 (own_nl (Ne.symm D7) own_nin0)) K38 (own_nl (Ne.symm D7) own_nin0)) K41 (own_nl (Ne.symm D7) own_nin0)) K44 (own_nl (Ne.symm D7) own_nin0)) K45 (own_nl (Ne.symm D48) (own_nl (Ne.symm D48) (own_nl (Ne.symm D48) (own_nl (Ne.symm D48) (own_nl (Ne.symm D48) (own_nl (Ne.symm D48) (own_nl (Ne.symm D48) (own_nl (Ne.symm D48) (own_nl (Ne.symm D48) own_nin0)))))))))) K61 (own_nl (Ne.symm D7) own_nin0)) K81 (own_nr (sl_114 hw) own_nin0)) K91 (own_nl (Ne.symm D48) own_nin0))
  have F123 := (own_F (v := .null) (own_F (v := .null) (own_F (v := .null) (own_F (v := .null) (own_F (v := .null) (own_F (v := .null) (own_F (v := .null) (own_F (v := .null) (own_F (v := .null) (own_F (v := .null) (own_F (v := .null) (own_F (v := .null) (own_F (v := .null) (own_F (v := .null) (D2 (Or.inl (own_w hw 63 rfl)) (ty := (.object zs2)) (by decide)) K6 (own_nr (sl_44 hw) own_nin0)) K12 (own_nr (sl_45 hw) own_nin0)) K17 (own_nr (sl_26 hw) own_nin0)) K22 (own_nr (sl_81 hw) own_nin0)) K25 (own_nl (Ne.symm D7) own_nin0)) K28 (own_nl (Ne.symm D7) own_nin0)) K35 (own_nl (Ne.symm D7) own_nin0)) K38 (own_nl (Ne.symm D7) own_nin0)) K41 (own_nl (Ne.symm D7) own_nin0)) K44 (own_nl (Ne.symm D7) own_nin0)) K45 (own_nl (Ne.symm D48) (own_nl (Ne.symm D48) (own_nl (Ne.symm D48) (own_nl (Ne.symm D48) (own_nl (Ne.symm D48) (own_nl (Ne.symm D48) (own_nl (Ne.symm D48) (own_nl (Ne.symm D48) (own_nl (Ne.symm D48) own_nin0)))))))))) K61 (own_nl (Ne.symm D7) own_nin0)) K81 (own_nr (sl_107 hw) own_nin0)) K91 (own_nl (Ne.symm D48) own_nin0))
  have F124 := (own_F (v := .null) (own_F (v := .null) (own_F (v := .null) (own_F (v := .null) (own_F (v := .null) (own_F (v := .null) (own_F (v := .null) (own_F (v := .null) (own_F (v := .null) (own_F (v := .null) (own_F (v := .null) (own_F (v := .null) (own_F (v := .null) F6 K12 (own_nr (sl_53 hw) own_nin0)) K17 (own_nr (sl_29 hw) own_nin0)) K22 (own_nr (sl_87 hw) own_nin0)) K25 (own_nl (Ne.symm D7) own_nin0)) K28 (own_nl (Ne.symm D7) own_nin0)) K35 (own_nl (Ne.symm D7) own_nin0)) K38 (own_nl (Ne.symm D7) own_nin0)) K41 (own_nl (Ne.symm D7) own_nin0)) K44 (own_nl (Ne.symm D7) own_nin0)) K45 (own_nl (Ne.symm D48) (own_nl (Ne.symm D48) (own_nl (Ne.symm D48) (own_nl (Ne.symm D48) (own_nl (Ne.symm D48) (own_nl (Ne.symm D48) (own_nl (Ne.symm D48) (own_nl (Ne.symm D48) (own_nl (Ne.symm D48) own_nin0)))))))))) K61 (own_nl (Ne.symm D7) own_nin0)) K81 (own_nr (sl_110 hw) own_nin0)) K91 (own_nl (Ne.symm D48) own_nin0))
  have F125 := (own_F (v := .null) (own_F (v := .null) (own_F (v := .null) (own_F (v := .null) (own_F (v := .null) (own_F (v := .null) (own_F (v := .null) (own_F (v := .null) (own_F (v := .null) (own_F (v := .null) (own_F (v := .null) (own_F (v := .null) (own_F (v := .null) (own_F (v := .null) (D2 (Or.inl (own_w hw 67 rfl)) (ty := (.object zs2)) (by decide)) K6 (own_nr (sl_46 hw) own_nin0)) K12 (own_nr (sl_47 hw) own_nin0)) K17 (own_nr (sl_28 hw) own_nin0)) K22 (own_nr (sl_82 hw) own_nin0)) K25 (own_nl (Ne.symm D7) own_nin0)) K28 (own_nl (Ne.symm D7) own_nin0)) K35 (own_nl (Ne.symm D7) own_nin0)) K38 (own_nl (Ne.symm D7) own_nin0)) K41 (own_nl (Ne.symm D7) own_nin0)) K44 (own_nl (Ne.symm D7) own_nin0)) K45 (own_nl (Ne.symm D48) (own_nl (Ne.symm D48) (own_nl (Ne.symm D48) (own_nl (Ne.symm D48) (own_nl (Ne.symm D48) (own_nl (Ne.symm D48) (own_nl (Ne.symm D48) (own_nl (Ne.symm D48) (own_nl (Ne.symm D48) own_nin0)))))))))) K61 (own_nl (Ne.symm D7) own_nin0)) K81 (own_nr (sl_109 hw) own_nin0)) K91 (own_nl (Ne.symm D48) own_nin0))
  have F126 := (own_F (v := .null) (own_F (v := .null) (own_F (v := .null) (own_F (v := .null) (own_F (v := .null) (own_F (v := .null) (own_F (v := .null) (own_F (v := .null) (own_F (v := .null) (own_F (v := .null) (own_F (v := .null) (own_F (v := .null) F12 K17 (own_nr (sl_34 hw) own_nin0)) K22 (own_nr (sl_90 hw) own_nin0)) K25 (own_nl (Ne.symm D7) own_nin0)) K28 (own_nl (Ne.symm D7) own_nin0)) K35 (own_nl (Ne.symm D7) own_nin0)) K38 (own_nl (Ne.symm D7) own_nin0)) K41 (own_nl (Ne.symm D7) own_nin0)) K44 (own_nl (Ne.symm D7) own_nin0)) K45 (own_nl (Ne.symm D48) (own_nl (Ne.symm D48) (own_nl (Ne.symm D48) (own_nl (Ne.symm D48) (own_nl (Ne.symm D48) (own_nl (Ne.symm D48) (own_nl (Ne.symm D48) (own_nl (Ne.symm D48) (own_nl (Ne.symm D48) own_nin0)))))))))) K61 (own_nl (Ne.symm D7) own_nin0)) K81 (own_nr (sl_111 hw) own_nin0)) K91 (own_nl (Ne.symm D48) own_nin0))
  have F127 := (own_F (v := .null) (own_F (v := .null) (own_F (v := .null) (own_F (v := .null) (own_F (v := .null) (own_F (v := .null) (own_F (v := .null) (own_F (v := .null) (own_F (v := .null) (own_F (v := .null) (own_F (v := .null) (own_F (v := .null) (own_F (v := .null) (own_F (v := .null) (D2 (Or.inl (own_w hw 71 rfl)) (ty := (.object zs0)) (by decide)) K6 (own_nr (sl_63 hw) own_nin0)) K12 (own_nr (sl_64 hw) own_nin0)) K17 (own_nr (sl_58 hw) own_nin0)) K22 (own_nr (sl_80 hw) own_nin0)) K25 (own_nl (Ne.symm D7) own_nin0)) K28 (own_nl (Ne.symm D7) own_nin0)) K35 (own_nl (Ne.symm D7) own_nin0)) K38 (own_nl (Ne.symm D7) own_nin0)) K41 (own_nl (Ne.symm D7) own_nin0)) K44 (own_nl (Ne.symm D7) own_nin0)) K45 (own_nl (Ne.symm D48) (own_nl (Ne.symm D48) (own_nl (Ne.symm D48) (own_nl (Ne.symm D48) (own_nl (Ne.symm D48) (own_nl (Ne.symm D48) (own_nl (Ne.symm D48) (own_nl (Ne.symm D48) (own_nl (Ne.symm D48) own_nin0)))))))))) K61 (own_nl (Ne.symm D7) own_nin0)) K81 (own_nr (sl_104 hw) own_nin0)) K91 (own_nl (Ne.symm D48) own_nin0))
  have F128 := (own_F (v := .null) (own_F (v := .null) (own_F (v := .null) (own_F (v := .null) (own_F (v := .null) (own_F (v := .null) (own_F (v := .null) (own_F (v := .null) (own_F (v := .null) (own_F (v := .null) (own_F (v := .null) (own_F (v := .null) (own_F (v := .null) (own_F (v := .null) (D2 (Or.inl (own_w hw 73 rfl)) (ty := (.object zs0)) (by decide)) K6 (own_nr (sl_70 hw) own_nin0)) K12 (own_nr (sl_71 hw) own_nin0)) K17 (own_nr (sl_65 hw) own_nin0)) K22 (own_nr (sl_79 hw) own_nin0)) K25 (own_nl (Ne.symm D7) own_nin0)) K28 (own_nl (Ne.symm D7) own_nin0)) K35 (own_nl (Ne.symm D7) own_nin0)) K38 (own_nl (Ne.symm D7) own_nin0)) K41 (own_nl (Ne.symm D7) own_nin0)) K44 (own_nl (Ne.symm D7) own_nin0)) K45 (own_nl (Ne.symm D48) (own_nl (Ne.symm D48) (own_nl (Ne.symm D48) (own_nl (Ne.symm D48) (own_nl (Ne.symm D48) (own_nl (Ne.symm D48) (own_nl (Ne.symm D48) (own_nl (Ne.symm D48) (own_nl (Ne.symm D48) own_nin0)))))))))) K61 (own_nl (Ne.symm D7) own_nin0)) K81 (own_nr (sl_105 hw) own_nin0)) K91 (own_nl (Ne.symm D48) own_nin0))
  have F129 := (own_F (v := .null) (own_F (v := .null) (own_F (v := .null) (own_F (v := .null) (own_F (v := .null) (own_F (v := .null) (own_F (v := .null) (own_F (v := .null) (own_F (v := .null) (own_F (v := .null) F22 K25 (own_nl (Ne.symm D7) own_nin0)) K28 (own_nl (Ne.symm D7) own_nin0)) K35 (own_nl (Ne.symm D7) own_nin0)) K38 (own_nl (Ne.symm D7) own_nin0)) K41 (own_nl (Ne.symm D7) own_nin0)) K44 (own_nl (Ne.symm D7) own_nin0)) K45 (own_nl (Ne.symm D48) (own_nl (Ne.symm D48) (own_nl (Ne.symm D48) (own_nl (Ne.symm D48) (own_nl (Ne.symm D48) (own_nl (Ne.symm D48) (own_nl (Ne.symm D48) (own_nl (Ne.symm D48) (own_nl (Ne.symm D48) own_nin0)))))))))) K61 (own_nl (Ne.symm D7) own_nin0)) K81 (own_nr (sl_112 hw) own_nin0)) K91 (own_nl (Ne.symm D48) own_nin0))
  have F130 := (own_F (v := .null) (own_F (v := .null) (own_F (v := .null) (own_F (v := .null) (own_F (v := .null) (own_F (v := .null) (own_F (v := .null) (own_F (v := .null) (own_F (v := .null) (own_F (v := .null) (own_F (v := .null) (own_F (v := .null) (own_F (v := .null) (own_F (v := .null) (D2 (Or.inl (own_w hw 82 rfl)) (ty := (.object zs2)) (by decide)) K6 (own_nr (sl_49 hw) own_nin0)) K12 (own_nr (sl_50 hw) own_nin0)) K17 (own_nr (sl_25 hw) own_nin0)) K22 (own_nr (sl_83 hw) own_nin0)) K25 (own_nl (Ne.symm D7) own_nin0)) K28 (own_nl (Ne.symm D7) own_nin0)) K35 (own_nl (Ne.symm D7) own_nin0)) K38 (own_nl (Ne.symm D7) own_nin0)) K41 (own_nl (Ne.symm D7) own_nin0)) K44 (own_nl (Ne.symm D7) own_nin0)) K45 (own_nl (Ne.symm D48) (own_nl (Ne.symm D48) (own_nl (Ne.symm D48) (own_nl (Ne.symm D48) (own_nl (Ne.symm D48) (own_nl (Ne.symm D48) (own_nl (Ne.symm D48) (own_nl (Ne.symm D48) (own_nl (Ne.symm D48) own_nin0)))))))))) K61 (own_nl (Ne.symm D7) own_nin0)) K81 (own_nr (sl_106 hw) own_nin0)) K91 (own_nl (Ne.symm D48) own_nin0))
  have F131 := (own_F (v := .null) (own_F (v := .null) (own_F (v := .null) (own_F (v := .null) (own_F (v := .null) (own_F (v := .null) (own_F (v := .null) (own_F (v := .null) (own_F (v := .null) (own_F (v := .null) (own_F (v := .null) (own_F (v := .null) (own_F (v := .null) (own_F (v := .null) (D2 (Or.inl (own_w hw 94 rfl)) (ty := (.object zs2)) (by decide)) K6 (own_nr (sl_51 hw) own_nin0)) K12 (own_nr (sl_52 hw) own_nin0)) K17 (own_nr (sl_27 hw) own_nin0)) K22 (own_nr (sl_84 hw) own_nin0)) K25 (own_nl (Ne.symm D7) own_nin0)) K28 (own_nl (Ne.symm D7) own_nin0)) K35 (own_nl (Ne.symm D7) own_nin0)) K38 (own_nl (Ne.symm D7) own_nin0)) K41 (own_nl (Ne.symm D7) own_nin0)) K44 (own_nl (Ne.symm D7) own_nin0)) K45 (own_nl (Ne.symm D48) (own_nl (Ne.symm D48) (own_nl (Ne.symm D48) (own_nl (Ne.symm D48) (own_nl (Ne.symm D48) (own_nl (Ne.symm D48) (own_nl (Ne.symm D48) (own_nl (Ne.symm D48) (own_nl (Ne.symm D48) own_nin0)))))))))) K61 (own_nl (Ne.symm D7) own_nin0)) K81 (own_nr (sl_108 hw) own_nin0)) K91 (own_nl (Ne.symm D48) own_nin0))
  have F132 := (own_F (v := (.int (2 : Int32))) G81_0 K91 (own_nl (Ne.symm D48) own_nin0))
  exact own_ret0 Y91 hx hlk Bd.returns (hb hby d7_134) ⟨rfl, b2, KC104, le2, F105, F106, F107, F108, F109, F110, F111, F112, F113, F114, F115, F116, F117, F118, F119, F120, G91_0, F121, F122, F123, F124, F125, F126, F127, F128, F129, F130, F131, F132⟩ (by decide) (by decide)
theorem pd__Lcom_example_napkintree_napkintree_balancing_MultiwayTree_Node_I_V : parseMethodDescriptor "(Lcom/example/napkintree/napkintree/balancing/MultiwayTree$Node;I)V" = some ⟨[(.object "com/example/napkintree/napkintree/balancing/MultiwayTree$Node"), .int], none⟩ := by decide +kernel
theorem d6_25 : decode prog_24_method_5_code 25 = .ok (.aload_n 0, 1) := by decide +kernel
theorem d6_26 : decode prog_24_method_5_code 26 = .ok (.aload_n 1, 1) := by decide +kernel
theorem d6_27 : decode prog_24_method_5_code 27 = .ok (.putfield 21, 3) := by decide +kernel
theorem d6_30 : decode prog_24_method_5_code 30 = .ok (.aload_n 0, 1) := by decide +kernel
theorem d6_31 : decode prog_24_method_5_code 31 = .ok (.aload_n 1, 1) := by decide +kernel
theorem d6_32 : decode prog_24_method_5_code 32 = .ok (.getstatic 81, 3) := by decide +kernel
theorem d6_35 : decode prog_24_method_5_code 35 = .ok (.invokevirtual 69, 3) := by decide +kernel
set_option maxRecDepth 65536 in
set_option maxHeartbeats 40000000 in
theorem rm19_20 (l : Launch) (Z : State) (a0 : Array Value) (hw : ∀ d ∈ tables_1, d.before a0 Z = true) (ws : List Jvm.Cond) (a1 : Addr) (h0 : Heap) (n0 : Nat) (Z0 : n0 ≤ Array.size h0) (P0 : Fld Z h0 a1 zs5 "ordinal" "I" (.int (2 : Int32))) :
    MetFree l (⟨zs5, "ordinal", "()I"⟩ : MethodName) (head1 (Jvm.Cond.code (⟨zs5, "ordinal", "()I"⟩ : MethodName) jdk_37_method_2_code 1 (some .int) :: ws) ({ frames := 0, cells := 0, slots := 0, locals := 0 } : Room)) (fun a U => a = #[(.ref a1)] ∧ Z.Warmed39 U.vm ∧ U.heap = h0) (fun _ _ _ _ _ => True) (fun _ U o U' => ∃ v L, o = .returned v ∧ own_QQ n0 (own_Same (some (.int (2 : Int32))) h0) v U'.heap L ∧ FrameEnd U o U' L ({ frames := 0, cells := 0, slots := 0, locals := 0 } : Room).cells ({ frames := 0, cells := 0, slots := 0, locals := 0 } : Room).slots) := by
  refine MetFree.of_bodySF (plainFor_of_name pn_java_lang_Enum) hisR ?_
  intro p e s m args below meth c s₁ Bd hml0 hP hK
  obtain ⟨rfl, hZ, hh⟩ := hP
  have hx := Bd.exec
  have hby := Bd.bytes
  have hml : c.maxLocals = 1 := hml0
  have hown : s.vm.findClass zs5 = some m.cls := findClass_of_methodNamed Bd.named
  have hnm := (name_of_methodNamed Bd.named Bd.method).1
  have hlk : meth.locks = false := BodyLoose.notSynchronized Bd
  have Y0 : own_S p l e ({ frames := 0, cells := 0, slots := 0, locals := 0 } : Room) s m #[(.ref a1)] below meth c n0 s₁ h0 0 0 := ⟨[], Stand.of_body Bd, Fr.nil n0, by rw [← hh, Bd.state]; rfl, Z0⟩
  refine (?_ : own_Fin p e below _ _)
  refine own_st (fun t k => castTop (ef_19_R m a1) k) ?_
  refine own_aloadN Y0 hx (pc' := 1) (hb hby d19_0) rfl rfl rfl ?_
  refine own_getF Y0 hx (pc' := 4) (v := (.int (2 : Int32))) hZ hown (host := "") (Or.inl (own_w hw 150 rfl)) Via.refl P0 (hb hby d19_1) rfl (fun T1 Y1 => ?_)
  exact own_retN Y1 hx hlk Bd.returns rfl (by simp) (hb hby d19_4) ⟨rfl, rfl⟩ (by decide) (by decide)
def P17_21 (Z : State) (a1 : Addr) (a2 : Addr) (a3 : Addr) (h0 : Heap) (h : Heap) : Prop := own_Kp h0 h [(a2, Jvm.RoadKit.slotOf Z zs0 "mark" "I")] ∧ Fld Z h a2 zs0 "mark" "I" (.int (3 : Int32))
theorem P17_21_sz {Z : State} {a1 : Addr} {a2 : Addr} {a3 : Addr} {h0 : Heap} : ∀ v h', (own_R none (P17_21 Z a1 a2 a3 h0)) v h' → Array.size h0 ≤ Array.size h' := by
  intro v h' q
  obtain ⟨-, K, -⟩ := q
  exact K.1
set_option maxRecDepth 65536 in
set_option maxHeartbeats 40000000 in
theorem rm17_21 (l : Launch) (Z : State) (a0 : Array Value) (hw : ∀ d ∈ tables_1, d.before a0 Z = true) (ws : List Jvm.Cond) (a1 : Addr) (a2 : Addr) (a3 : Addr) (h0 : Heap) (n0 : Nat) (Z0 : n0 ≤ Array.size h0) (P0 : Exa Z h0 a1 zs9) (P1 : Fld Z h0 a1 zs7 "shapeCount" "I" (.int (0 : Int32))) (P2 : Sta Z h0 zs6 "MARK_BITS" "I" (.int (2 : Int32))) (P3 : Exa Z h0 a3 zs3) (P4 : Fld Z h0 a3 zs5 "ordinal" "I" (.int (2 : Int32))) (P5 : Fld Z h0 a2 zs0 "mark" "I" (.int (1 : Int32))) (P6 : Exa Z h0 a2 zs0) (P7 : n0 ≤ a2) :
    MetFree l (⟨zs6, "mark", zs23⟩ : MethodName) (head1 (Jvm.Cond.code (⟨zs6, "mark", zs23⟩ : MethodName) prog_24_method_10_code 3 none :: ws) ({ frames := 1, cells := 0, slots := 0, locals := 14 } : Room)) (fun a U => a = #[(.ref a1), (.ref a2), (.ref a3)] ∧ Z.Warmed39 U.vm ∧ U.heap = h0) (fun _ _ _ _ _ => True) (fun _ U o U' => ∃ v L, o = .returned v ∧ own_QQ n0 (own_R none (P17_21 Z a1 a2 a3 h0)) v U'.heap L ∧ FrameEnd U o U' L ({ frames := 1, cells := 0, slots := 0, locals := 14 } : Room).cells ({ frames := 1, cells := 0, slots := 0, locals := 14 } : Room).slots) := by
  refine MetFree.of_bodySF (plainFor_of_name pn_com_example_napkintree_napkintree_balancing_MultiwayTree) hisR ?_
  intro p e s m args below meth c s₁ Bd hml0 hP hK
  obtain ⟨rfl, hZ, hh⟩ := hP
  have hx := Bd.exec
  have hby := Bd.bytes
  have hml : c.maxLocals = 3 := hml0
  have hown : s.vm.findClass zs6 = some m.cls := findClass_of_methodNamed Bd.named
  have hnm := (name_of_methodNamed Bd.named Bd.method).1
  have hlk : meth.locks = false := BodyLoose.notSynchronized Bd
  have Y0 : own_S p l e ({ frames := 1, cells := 0, slots := 0, locals := 14 } : Room) s m #[(.ref a1), (.ref a2), (.ref a3)] below meth c n0 s₁ h0 0 0 := ⟨[], Stand.of_body Bd, Fr.nil n0, by rw [← hh, Bd.state]; rfl, Z0⟩
  refine (?_ : own_Fin p e below _ _)
  refine own_st (fun t k => castTop (ef_17_RRR m a1 a2 a3) k) ?_
  refine own_aloadN Y0 hx (pc' := 1) (hb hby d17_0) rfl rfl rfl ?_
  refine own_aloadN Y0 hx (pc' := 2) (hb hby d17_1) rfl rfl rfl ?_
  refine own_virtualUp Y0 hx (pc' := 5) (W := 1) (cl' := 0) (sl' := 0) (as' := []) (S' := [(.ref a2)]) (a := a1) hZ hown (own_w hw 133 rfl) (own_w hw 134 rfl) (own_w hw 135 rfl) (own_w hw 137 rfl) (own_w hw 136 rfl) (own_w hw 24 rfl) (own_w hw 138 rfl) (by decide) P0 (rm18_14 l Z a0 hw [] a1 h0 n0 (own_sz Y0) P1) (hb hby d17_2) rfl (by rw [hml]; rfl) rfl (lenOf pd___I rfl) rfl (by decide) (by decide) rfl rfl (by decide) (by decide) own_Same.sz (own_fixS (S2 := [(.int (0 : Int32)), (.ref a2)]) rfl (fun T1 Y1 => ?_))
  refine own_getS Y1 hx (pc' := 8) (v := (.int (2 : Int32))) hZ hown (host := "") (Or.inl (own_w hw 141 rfl)) Via.refl P2 (hb hby d17_5) rfl (fun T2 Y2 => ?_)
  refine own_ishl Y2 hx (pc' := 9) (hb hby d17_8) rfl (z := (0 : Int32)) (by decide) ?_
  refine own_aloadN Y2 hx (pc' := 10) (hb hby d17_9) rfl rfl rfl ?_
  refine own_virtualUp Y2 hx (pc' := 13) (W := 2) (cl' := 0) (sl' := 0) (as' := []) (S' := [(.int (0 : Int32)), (.ref a2)]) (a := a3) hZ hown (own_w hw 143 rfl) (own_w hw 144 rfl) (own_w hw 145 rfl) (own_w hw 147 rfl) (own_w hw 146 rfl) (own_w hw 148 rfl) (own_w hw 149 rfl) (by decide) P3 (rm19_20 l Z a0 hw [] a3 h0 n0 (own_sz Y2) P4) (hb hby d17_10) rfl (by rw [hml]; rfl) rfl (lenOf pd___I rfl) rfl (by decide) (by decide) rfl rfl (by decide) (by decide) own_Same.sz (own_fixS (S2 := [(.int (2 : Int32)), (.int (0 : Int32)), (.ref a2)]) rfl (fun T3 Y3 => ?_))
  refine own_iconst Y3 hx (pc' := 14) (x := (1 : Int32)) (hb hby d17_13) rfl (by decide) ?_
  refine own_iadd Y3 hx (pc' := 15) (hb hby d17_14) rfl (z := (3 : Int32)) (by decide) ?_
  refine own_ior Y3 hx (pc' := 16) (hb hby d17_15) rfl (z := (3 : Int32)) (by decide) ?_
  refine own_putF Y3 hx (pc' := 19) hZ hown (Or.inr (own_w hw 152 rfl)) Via.refl P5 P6 (Or.inl (own_w hw 153 rfl)) (own_w hw 2 rfl) (ty := .int) (by decide) rfl rfl P7 (hb hby d17_16) rfl (fun T4 h4 Y4 K4 F4 => ?_)
  have KC5 : own_Kp h0 h4 [(a2, Jvm.RoadKit.slotOf Z zs0 "mark" "I")] := ((own_Kp.refl h0 [(a2, Jvm.RoadKit.slotOf Z zs0 "mark" "I")]).trans K4 (own_allS (Or.inl (List.mem_of_getElem? (i := 0) rfl)) own_all0))
  exact own_ret0 Y4 hx hlk Bd.returns (hb hby d17_19) ⟨rfl, KC5, F4⟩ (by decide) (by decide)
theorem d6_38 : decode prog_24_method_5_code 38 = .ok (.return_, 1) := by decide +kernel
theorem sl_115 {Z : State} {a0 : Array Value} (hw : ∀ d ∈ tables_1, d.before a0 Z = true) : Jvm.RoadKit.slotOf Z zs0 "child0" zs16 ≠ Jvm.RoadKit.slotOf Z zs0 "child3" zs16 := slot_ne (C := zs0) (Or.inl (own_w hw 50 rfl)) (Or.inl (own_w hw 73 rfl)) (by decide) (t := (.object zs0)) (t' := (.object zs0)) (by decide) (by decide)
theorem sl_116 {Z : State} {a0 : Array Value} (hw : ∀ d ∈ tables_1, d.before a0 Z = true) : Jvm.RoadKit.slotOf Z zs0 "child0" zs16 ≠ Jvm.RoadKit.slotOf Z zs0 "child2" zs16 := slot_ne (C := zs0) (Or.inl (own_w hw 50 rfl)) (Or.inl (own_w hw 71 rfl)) (by decide) (t := (.object zs0)) (t' := (.object zs0)) (by decide) (by decide)
theorem ef_6_R (m : MethodId) (x0 : Addr) : entryFrame m #[(.ref x0)] 2 = mkF m 0 #[.val (.ref x0), .unset] [] := by first | (simp [entryFrame, mkF, argsToLocals, Value.category]; done) | rfl
def P6_22 (Z : State) (a1 : Addr) (a2 : Addr) (a3 : Addr) (a4 : Addr) (a5 : Addr) (a6 : Addr) (h0 : Heap) (h : Heap) : Prop := ∃ b1 b8_0 : Addr, own_Kp h0 h [(a2, Jvm.RoadKit.slotOf Z zs0 "child2" zs16), (a2, Jvm.RoadKit.slotOf Z zs0 "child3" zs16), (a2, Jvm.RoadKit.slotOf Z zs0 "key1" zs1), (a2, Jvm.RoadKit.slotOf Z zs0 "key2" zs1), (a2, Jvm.RoadKit.slotOf Z zs0 "value1" zs1), (a2, Jvm.RoadKit.slotOf Z zs0 "value2" zs1), (a2, Jvm.RoadKit.slotOf Z zs0 "mark" "I"), (a1, Jvm.RoadKit.slotOf Z zs7 "root" zs14)] ∧ Array.size h0 ≤ b1 ∧ Array.size h0 ≤ b8_0 ∧ Fld Z h a2 zs0 "child2" zs16 .null ∧ Fld Z h a2 zs0 "child3" zs16 .null ∧ Fld Z h a2 zs0 "key1" zs1 .null ∧ Fld Z h a2 zs0 "key2" zs1 .null ∧ Fld Z h a2 zs0 "value1" zs1 .null ∧ Fld Z h a2 zs0 "value2" zs1 .null ∧ Fld Z h a2 zs0 "mark" "I" (.int (2 : Int32)) ∧ Fld Z h a1 zs7 "root" zs14 (.ref b1) ∧ Exa Z h b1 zs0 ∧ Fld Z h b1 zs0 "child0" zs16 (.ref a2) ∧ Fld Z h b1 zs0 "key2" zs1 .null ∧ Fld Z h b1 zs0 "key0" zs1 (.ref a3) ∧ Fld Z h b1 zs0 "value2" zs1 .null ∧ Fld Z h b1 zs0 "value0" zs1 .null ∧ Fld Z h b1 zs0 "child2" zs16 .null ∧ Fld Z h b1 zs0 "child3" zs16 .null ∧ Fld Z h b1 zs0 "child1" zs16 (.ref b8_0) ∧ Fld Z h b1 zs0 "key1" zs1 .null ∧ Fld Z h b1 zs0 "value1" zs1 .null ∧ Fld Z h b1 zs0 "mark" "I" (.int (3 : Int32)) ∧ Exa Z h b8_0 zs0 ∧ Fld Z h b8_0 zs0 "child0" zs16 .null ∧ Fld Z h b8_0 zs0 "key2" zs1 .null ∧ Fld Z h b8_0 zs0 "key0" zs1 .null ∧ Fld Z h b8_0 zs0 "value2" zs1 .null ∧ Fld Z h b8_0 zs0 "value0" zs1 .null ∧ Fld Z h b8_0 zs0 "child2" zs16 .null ∧ Fld Z h b8_0 zs0 "child3" zs16 .null ∧ Fld Z h b8_0 zs0 "child1" zs16 .null ∧ Fld Z h b8_0 zs0 "key1" zs1 .null ∧ Fld Z h b8_0 zs0 "value1" zs1 .null ∧ Fld Z h b8_0 zs0 "mark" "I" (.int (2 : Int32)) ∧ b1 ≠ b8_0
theorem P6_22_sz {Z : State} {a1 : Addr} {a2 : Addr} {a3 : Addr} {a4 : Addr} {a5 : Addr} {a6 : Addr} {h0 : Heap} : ∀ v h', (own_R none (P6_22 Z a1 a2 a3 a4 a5 a6 h0)) v h' → Array.size h0 ≤ Array.size h' := by
  intro v h' q
  obtain ⟨-, _, _, K, -⟩ := q
  exact K.1
set_option maxRecDepth 65536 in
set_option maxHeartbeats 40000000 in
theorem rm6_22 (l : Launch) (Z : State) (a0 : Array Value) (hw : ∀ d ∈ tables_1, d.before a0 Z = true) (ws : List Jvm.Cond) (a1 : Addr) (a2 : Addr) (a3 : Addr) (a4 : Addr) (a5 : Addr) (a6 : Addr) (h0 : Heap) (n0 : Nat) (Z0 : n0 ≤ Array.size h0) (P0 : Fld Z h0 a1 zs7 "root" zs14 (.ref a2)) (P1 : Exa Z h0 a2 zs0) (P2 : Exa Z h0 a1 zs9) (P3 : Fld Z h0 a2 zs0 "key2" zs1 .null) (P4 : Fld Z h0 a2 zs0 "value2" zs1 .null) (P5 : Fld Z h0 a2 zs0 "child2" zs16 .null) (P6 : Fld Z h0 a2 zs0 "child3" zs16 .null) (P7 : n0 ≤ a2) (P8 : Fld Z h0 a2 zs0 "key1" zs1 .null) (P9 : Sta Z h0 zs0 "NULL_KEY" zs1 (.ref a3)) (P10 : Fld Z h0 a2 zs0 "value1" zs1 .null) (P11 : Sta Z h0 zs3 "SPLIT" zs4 (.ref a4)) (P12 : Fld Z h0 a1 zs7 "shapeCount" "I" (.int (0 : Int32))) (P13 : Sta Z h0 zs6 "MARK_BITS" "I" (.int (2 : Int32))) (P14 : Exa Z h0 a4 zs3) (P15 : Fld Z h0 a4 zs5 "ordinal" "I" (.int (1 : Int32))) (P16 : Fld Z h0 a2 zs0 "mark" "I" (.int (0 : Int32))) (P17 : Sta Z h0 zs3 "ABSORBED" zs4 (.ref a5)) (P18 : Exa Z h0 a5 zs3) (P19 : Fld Z h0 a5 zs5 "ordinal" "I" (.int (0 : Int32))) (P20 : n0 ≤ a1) (P21 : Sta Z h0 zs3 "NEW_ROOT" zs4 (.ref a6)) (P22 : Exa Z h0 a6 zs3) (P23 : Fld Z h0 a6 zs5 "ordinal" "I" (.int (2 : Int32))) :
    MetFree l (⟨zs6, "splitRoot", "()V"⟩ : MethodName) (head1 (Jvm.Cond.code (⟨zs6, "splitRoot", "()V"⟩ : MethodName) prog_24_method_5_code 2 none :: ws) ({ frames := 4, cells := 2, slots := 22, locals := 63 } : Room)) (fun a U => a = #[(.ref a1)] ∧ Z.Warmed39 U.vm ∧ U.heap = h0) (fun _ _ _ _ _ => True) (fun _ U o U' => ∃ v L, o = .returned v ∧ own_QQ n0 (own_R none (P6_22 Z a1 a2 a3 a4 a5 a6 h0)) v U'.heap L ∧ FrameEnd U o U' L ({ frames := 4, cells := 2, slots := 22, locals := 63 } : Room).cells ({ frames := 4, cells := 2, slots := 22, locals := 63 } : Room).slots) := by
  refine MetFree.of_bodySF (plainFor_of_name pn_com_example_napkintree_napkintree_balancing_MultiwayTree) hisR ?_
  intro p e s m args below meth c s₁ Bd hml0 hP hK
  obtain ⟨rfl, hZ, hh⟩ := hP
  have hx := Bd.exec
  have hby := Bd.bytes
  have hml : c.maxLocals = 2 := hml0
  have hown : s.vm.findClass zs6 = some m.cls := findClass_of_methodNamed Bd.named
  have hnm := (name_of_methodNamed Bd.named Bd.method).1
  have hlk : meth.locks = false := BodyLoose.notSynchronized Bd
  have Y0 : own_S p l e ({ frames := 4, cells := 2, slots := 22, locals := 63 } : Room) s m #[(.ref a1)] below meth c n0 s₁ h0 0 0 := ⟨[], Stand.of_body Bd, Fr.nil n0, by rw [← hh, Bd.state]; rfl, Z0⟩
  refine (?_ : own_Fin p e below _ _)
  refine own_st (fun t k => castTop (ef_6_R m a1) k) ?_
  refine own_new Y0 hx (pc' := 3) (cl' := 1) (sl' := 11) hZ hown (own_w hw 44 rfl) (own_w hw 2 rfl) (own_w hw 3 rfl) (hb hby d6_0) rfl rfl rfl (by decide) (by decide) (fun T1 h1 b1 Y1 K1 le1 E1 D1 => ?_)
  refine own_dup Y1 hx (pc' := 4) (hb hby d6_3) rfl rfl ?_
  refine own_special Y1 hx (pc' := 7) (W := 1) (cl' := 1) (sl' := 11) (as' := []) (S' := [(.ref b1)]) (a := b1) rfl hZ hown (own_w hw 45 rfl) (own_w hw 5 rfl) (own_w hw 3 rfl) (own_w hw 6 rfl) (by decide) (rm1_1 l Z a0 hw [] b1 h1 n0 (own_sz Y1)) (hb hby d6_4) rfl (by rw [hml]; rfl) rfl (lenOf pd___V rfl) rfl (by decide) (by decide) rfl rfl (by decide) (by decide) own_Same.sz (own_fixS (S2 := [(.ref b1)]) rfl (fun T2 Y2 => ?_))
  refine own_astoreN Y2 hx (pc' := 8) (Ls' := #[.val (.ref a1), .val (.ref b1)]) (hb hby d6_7) rfl rfl rfl ?_
  refine own_aloadN Y2 hx (pc' := 9) (hb hby d6_8) rfl rfl rfl ?_
  refine own_aloadN Y2 hx (pc' := 10) (hb hby d6_9) rfl rfl rfl ?_
  have F3 := (own_F (v := (.ref a2)) P0 K1 own_nin0)
  refine own_getF Y2 hx (pc' := 13) (v := (.ref a2)) hZ hown (host := "") (Or.inl (own_w hw 46 rfl)) (Via.of (own_w hw 47 rfl)) F3 (hb hby d6_10) rfl (fun T4 Y4 => ?_)
  have F5 := (own_E P1 K1)
  refine own_castY Y4 hx (pc' := 16) hZ hown (own_w hw 44 rfl) (Ins.self F5) (hb hby d6_13) rfl (fun T6 Y6 => ?_)
  refine own_putF Y6 hx (pc' := 19) hZ hown (Or.inr (own_w hw 49 rfl)) Via.refl (D1 (Or.inl (own_w hw 50 rfl)) (ty := (.object zs0)) (by decide)) E1 (Or.inl (own_w hw 50 rfl)) (own_w hw 2 rfl) (ty := (.object zs0)) (by decide) rfl rfl (Nat.le_trans Z0 le1) (hb hby d6_16) rfl (fun T7 h7 Y7 K7 F7 => ?_)
  refine own_aloadN Y7 hx (pc' := 20) (hb hby d6_19) rfl rfl rfl ?_
  refine own_aloadN Y7 hx (pc' := 21) (hb hby d6_20) rfl rfl rfl ?_
  refine own_iconst Y7 hx (pc' := 22) (x := (0 : Int32)) (hb hby d6_21) rfl (by decide) ?_
  have F9 := (own_E (own_E P2 K1) K7)
  have F10 := (own_E E1 K7)
  have D11 : a2 ≠ b1 := (Nat.ne_of_lt (Nat.lt_of_lt_of_le P1.lt le1))
  have F12 := (own_F (v := .null) (own_F (v := .null) P3 K1 own_nin0) K7 (own_nl D11 own_nin0))
  have F13 := (own_F (v := .null) (own_F (v := .null) P4 K1 own_nin0) K7 (own_nl D11 own_nin0))
  have F14 := (own_E F5 K7)
  have F15 := (own_F (v := .null) (own_F (v := .null) P5 K1 own_nin0) K7 (own_nl D11 own_nin0))
  have F16 := (own_F (v := .null) (own_F (v := .null) P6 K1 own_nin0) K7 (own_nl D11 own_nin0))
  have F17 := (own_F (v := .null) (own_F (v := .null) P8 K1 own_nin0) K7 (own_nl D11 own_nin0))
  have F18 := (own_St (own_St P9 K1 own_all0) K7 (own_allS (own_plain E1) own_all0))
  have F19 := (own_F (v := .null) (own_F (v := .null) P10 K1 own_nin0) K7 (own_nl D11 own_nin0))
  have F20 := (own_F (v := .null) (D1 (Or.inl (own_w hw 82 rfl)) (ty := (.object zs2)) (by decide)) K7 (own_nr (sl_25 hw) own_nin0))
  have F21 := (own_F (v := .null) (D1 (Or.inl (own_w hw 63 rfl)) (ty := (.object zs2)) (by decide)) K7 (own_nr (sl_26 hw) own_nin0))
  have F22 := (own_F (v := .null) (D1 (Or.inl (own_w hw 94 rfl)) (ty := (.object zs2)) (by decide)) K7 (own_nr (sl_27 hw) own_nin0))
  have F23 := (own_F (v := .null) (D1 (Or.inl (own_w hw 67 rfl)) (ty := (.object zs2)) (by decide)) K7 (own_nr (sl_28 hw) own_nin0))
  have F24 := (own_F (v := .null) (D1 (Or.inl (own_w hw 65 rfl)) (ty := (.object zs2)) (by decide)) K7 (own_nr (sl_29 hw) own_nin0))
  have F25 := (own_F (v := .null) (D1 (Or.inl (own_w hw 69 rfl)) (ty := (.object zs2)) (by decide)) K7 (own_nr (sl_34 hw) own_nin0))
  have F26 := (own_F (v := .null) (D1 (Or.inl (own_w hw 71 rfl)) (ty := (.object zs0)) (by decide)) K7 (own_nr (sl_58 hw) own_nin0))
  have F27 := (own_F (v := .null) (D1 (Or.inl (own_w hw 73 rfl)) (ty := (.object zs0)) (by decide)) K7 (own_nr (sl_65 hw) own_nin0))
  have F28 := (own_F (v := .null) (D1 (Or.inl (own_w hw 75 rfl)) (ty := (.object zs0)) (by decide)) K7 (own_nr (sl_9 hw) own_nin0))
  have F29 := (own_St (own_St P11 K1 own_all0) K7 (own_allS (own_plain E1) own_all0))
  have D30 : a1 ≠ b1 := (Nat.ne_of_lt (Nat.lt_of_lt_of_le P2.lt le1))
  have F31 := (own_F (v := (.int (0 : Int32))) (own_F (v := (.int (0 : Int32))) P12 K1 own_nin0) K7 (own_nl D30 own_nin0))
  have F32 := (own_St (own_St P13 K1 own_all0) K7 (own_allS (own_plain E1) own_all0))
  have F33 := (own_E (own_E P14 K1) K7)
  have D34 : a4 ≠ b1 := (Nat.ne_of_lt (Nat.lt_of_lt_of_le P14.lt le1))
  have F35 := (own_F (v := (.int (1 : Int32))) (own_F (v := (.int (1 : Int32))) P15 K1 own_nin0) K7 (own_nl D34 own_nin0))
  have F36 := (own_F (v := (.int (0 : Int32))) (own_F (v := (.int (0 : Int32))) P16 K1 own_nin0) K7 (own_nl D11 own_nin0))
  have F37 := (own_St (own_St P17 K1 own_all0) K7 (own_allS (own_plain E1) own_all0))
  have F38 := (own_E (own_E P18 K1) K7)
  have D39 : a5 ≠ b1 := (Nat.ne_of_lt (Nat.lt_of_lt_of_le P18.lt le1))
  have F40 := (own_F (v := (.int (0 : Int32))) (own_F (v := (.int (0 : Int32))) P19 K1 own_nin0) K7 (own_nl D39 own_nin0))
  have F41 := (own_F (v := (.int (0 : Int32))) (D1 (Or.inl (own_w hw 153 rfl)) (ty := .int) (by decide)) K7 (own_nr (sl_102 hw) own_nin0))
  refine own_virtual Y7 hx (pc' := 25) (W := 0) (cl' := 2) (sl' := 22) (as' := [(.ref b1), (.int (0 : Int32))]) (S' := []) (a := a1) hZ hown (own_w hw 51 rfl) (own_w hw 52 rfl) (notFace_of_selects (args := #[]) (mvT hZ (own_w hw 54 rfl))) (own_w hw 54 rfl) (own_w hw 53 rfl) (own_w hw 19 rfl) (own_w hw 55 rfl) (by decide) F9 (rm7_19 l Z a0 hw [] a1 b1 a2 a3 a4 a5 h7 n0 (own_sz Y7) F10 F7 F12 F13 F14 F15 F16 P7 F17 F18 F19 F20 (Ne.symm D11) F21 (Nat.le_trans Z0 le1) F22 F23 F24 F25 F26 F27 F28 F29 F9 F31 F32 F33 F35 F36 F37 F38 F40 F41) (hb hby d6_22) rfl (by rw [hml]; rfl) rfl (lenOf pd__Lcom_example_napkintree_napkintree_balancing_MultiwayTree_Node_I_V rfl) rfl (by decide) (by decide) rfl rfl (by decide) (by decide) P7_19_sz (own_fixR (S2 := []) rfl (fun T8 h8 Y8 R8 => ?_))
  obtain ⟨b8_0, K8, le_b8_0, G8_0, G8_1, G8_2, G8_3, G8_4, G8_5, G8_6, G8_7, G8_8, G8_9, G8_10, G8_11, G8_12, G8_13, G8_14, G8_15, G8_16, G8_17, G8_18, G8_19, G8_20, G8_21, G8_22, G8_23, G8_24, G8_25, G8_26, G8_27, G8_28⟩ := R8
  have KC42 : own_Kp h0 h7 [(a2, Jvm.RoadKit.slotOf Z zs0 "child2" zs16), (a2, Jvm.RoadKit.slotOf Z zs0 "child3" zs16), (a2, Jvm.RoadKit.slotOf Z zs0 "key1" zs1), (a2, Jvm.RoadKit.slotOf Z zs0 "key2" zs1), (a2, Jvm.RoadKit.slotOf Z zs0 "value1" zs1), (a2, Jvm.RoadKit.slotOf Z zs0 "value2" zs1), (a2, Jvm.RoadKit.slotOf Z zs0 "mark" "I"), (a1, Jvm.RoadKit.slotOf Z zs7 "root" zs14)] := (((own_Kp.refl h0 [(a2, Jvm.RoadKit.slotOf Z zs0 "child2" zs16), (a2, Jvm.RoadKit.slotOf Z zs0 "child3" zs16), (a2, Jvm.RoadKit.slotOf Z zs0 "key1" zs1), (a2, Jvm.RoadKit.slotOf Z zs0 "key2" zs1), (a2, Jvm.RoadKit.slotOf Z zs0 "value1" zs1), (a2, Jvm.RoadKit.slotOf Z zs0 "value2" zs1), (a2, Jvm.RoadKit.slotOf Z zs0 "mark" "I"), (a1, Jvm.RoadKit.slotOf Z zs7 "root" zs14)]).trans K1 own_all0).trans K7 (own_allS (Or.inr le1) own_all0))
  have sz_b8_0 : Array.size h0 ≤ b8_0 := Nat.le_trans KC42.1 le_b8_0
  refine own_aloadN Y8 hx (pc' := 26) (hb hby d6_25) rfl rfl rfl ?_
  refine own_aloadN Y8 hx (pc' := 27) (hb hby d6_26) rfl rfl rfl ?_
  have D43 : a1 ≠ a2 := (ne_exa F9 F14 (by decide))
  have F44 := (own_F (v := (.ref a2)) (own_F (v := (.ref a2)) F3 K7 (own_nl D30 own_nin0)) K8 (own_nl D43 (own_nl D43 (own_nl D43 (own_nl D43 (own_nl D43 (own_nl D43 (own_nl D30 (own_nl D30 (own_nl D30 (own_nl D30 (own_nl D30 (own_nl D30 (own_nl D30 (own_nl D30 (own_nl D30 (own_nl D43 (own_nl D30 own_nin0))))))))))))))))))
  have F45 := (own_E F9 K8)
  refine own_putF Y8 hx (pc' := 30) hZ hown (host := "") (Or.inl (own_w hw 46 rfl)) (Via.of (own_w hw 47 rfl)) F44 F45 (Or.inl (own_w hw 37 rfl)) (own_w hw 11 rfl) (ty := (.object zs15)) (by decide) rfl rfl P20 (hb hby d6_27) rfl (fun T46 h46 Y46 K46 F46 => ?_)
  refine own_aloadN Y46 hx (pc' := 31) (hb hby d6_30) rfl rfl rfl ?_
  refine own_aloadN Y46 hx (pc' := 32) (hb hby d6_31) rfl rfl rfl ?_
  have F47 := (own_St (own_St (own_St (own_St P21 K1 own_all0) K7 (own_allS (own_plain E1) own_all0)) K8 (own_allS (own_plain F14) (own_allS (own_plain F14) (own_allS (own_plain F14) (own_allS (own_plain F14) (own_allS (own_plain F14) (own_allS (own_plain F14) (own_allS (own_plain F10) (own_allS (own_plain F10) (own_allS (own_plain F10) (own_allS (own_plain F10) (own_allS (own_plain F10) (own_allS (own_plain F10) (own_allS (own_plain F10) (own_allS (own_plain F10) (own_allS (own_plain F10) (own_allS (own_plain F14) (own_allS (own_plain F10) own_all0)))))))))))))))))) K46 (own_allS (own_plain F45) own_all0))
  refine own_getS Y46 hx (pc' := 35) (v := (.ref a6)) hZ hown (host := "") (Or.inl (own_w hw 156 rfl)) Via.refl F47 (hb hby d6_32) rfl (fun T48 Y48 => ?_)
  have F50 := (own_E F45 K46)
  have F51 := (own_F (v := (.int (0 : Int32))) (own_F (v := (.int (0 : Int32))) F31 K8 (own_nl D43 (own_nl D43 (own_nl D43 (own_nl D43 (own_nl D43 (own_nl D43 (own_nl D30 (own_nl D30 (own_nl D30 (own_nl D30 (own_nl D30 (own_nl D30 (own_nl D30 (own_nl D30 (own_nl D30 (own_nl D43 (own_nl D30 own_nin0)))))))))))))))))) K46 (own_nr (sl_93 hw) own_nin0))
  have F52 := (own_St (own_St F32 K8 (own_allS (own_plain F14) (own_allS (own_plain F14) (own_allS (own_plain F14) (own_allS (own_plain F14) (own_allS (own_plain F14) (own_allS (own_plain F14) (own_allS (own_plain F10) (own_allS (own_plain F10) (own_allS (own_plain F10) (own_allS (own_plain F10) (own_allS (own_plain F10) (own_allS (own_plain F10) (own_allS (own_plain F10) (own_allS (own_plain F10) (own_allS (own_plain F10) (own_allS (own_plain F14) (own_allS (own_plain F10) own_all0)))))))))))))))))) K46 (own_allS (own_plain F45) own_all0))
  have F53 := (own_E (own_E (own_E (own_E P22 K1) K7) K8) K46)
  have D54 : a6 ≠ b1 := (Nat.ne_of_lt (Nat.lt_of_lt_of_le P22.lt le1))
  have F55 := (own_E (own_E P22 K1) K7)
  have D56 : a6 ≠ a2 := (ne_exa F55 F14 (by decide))
  have F57 := (own_E F55 K8)
  have D58 : a6 ≠ a1 := (ne_exa F57 F45 (by decide))
  have F59 := (own_F (v := (.int (2 : Int32))) (own_F (v := (.int (2 : Int32))) (own_F (v := (.int (2 : Int32))) (own_F (v := (.int (2 : Int32))) P23 K1 own_nin0) K7 (own_nl D54 own_nin0)) K8 (own_nl D56 (own_nl D56 (own_nl D56 (own_nl D56 (own_nl D56 (own_nl D56 (own_nl D54 (own_nl D54 (own_nl D54 (own_nl D54 (own_nl D54 (own_nl D54 (own_nl D54 (own_nl D54 (own_nl D54 (own_nl D56 (own_nl D54 own_nin0)))))))))))))))))) K46 (own_nl D58 own_nin0))
  have F60 := (own_F (v := (.int (1 : Int32))) G8_16 K46 (own_nl (Ne.symm D30) own_nin0))
  have F61 := (own_E (own_E F10 K8) K46)
  refine own_private Y48 hx (pc' := 38) (W := 0) (cl' := 2) (sl' := 22) (as' := [(.ref b1), (.ref a6)]) (S' := []) (a := a1) hZ hown (own_w hw 129 rfl) (own_w hw 130 rfl) (own_selP hZ (Cond.sameMethod_class (own_w hw 134 rfl)) (own_w hw 131 rfl) (own_w hw 130 rfl) (by decide)) (own_w hw 131 rfl) (own_w hw 19 rfl) (own_w hw 132 rfl) (by decide) F50 (rm17_21 l Z a0 hw [] a1 b1 a6 h46 n0 (own_sz Y48) F50 F51 F52 F53 F59 F60 F61 (Nat.le_trans Z0 le1)) (hb hby d6_35) rfl (by rw [hml]; rfl) rfl (lenOf pd__Lcom_example_napkintree_napkintree_balancing_MultiwayTree_Node_Lcom_example_napkintree_napkintree_balancing_NodeMark__V rfl) rfl (by decide) (by decide) rfl rfl (by decide) (by decide) P17_21_sz (own_fixR (S2 := []) rfl (fun T49 h49 Y49 R49 => ?_))
  obtain ⟨K49, G49_0⟩ := R49
  have KC62 : own_Kp h0 h49 [(a2, Jvm.RoadKit.slotOf Z zs0 "child2" zs16), (a2, Jvm.RoadKit.slotOf Z zs0 "child3" zs16), (a2, Jvm.RoadKit.slotOf Z zs0 "key1" zs1), (a2, Jvm.RoadKit.slotOf Z zs0 "key2" zs1), (a2, Jvm.RoadKit.slotOf Z zs0 "value1" zs1), (a2, Jvm.RoadKit.slotOf Z zs0 "value2" zs1), (a2, Jvm.RoadKit.slotOf Z zs0 "mark" "I"), (a1, Jvm.RoadKit.slotOf Z zs7 "root" zs14)] := (((KC42.trans K8 (own_allS (Or.inl (List.mem_of_getElem? (i := 0) rfl)) (own_allS (Or.inl (List.mem_of_getElem? (i := 1) rfl)) (own_allS (Or.inl (List.mem_of_getElem? (i := 2) rfl)) (own_allS (Or.inl (List.mem_of_getElem? (i := 3) rfl)) (own_allS (Or.inl (List.mem_of_getElem? (i := 4) rfl)) (own_allS (Or.inl (List.mem_of_getElem? (i := 5) rfl)) (own_allS (Or.inr le1) (own_allS (Or.inr le1) (own_allS (Or.inr le1) (own_allS (Or.inr le1) (own_allS (Or.inr le1) (own_allS (Or.inr le1) (own_allS (Or.inr le1) (own_allS (Or.inr le1) (own_allS (Or.inr le1) (own_allS (Or.inl (List.mem_of_getElem? (i := 6) rfl)) (own_allS (Or.inr le1) own_all0)))))))))))))))))).trans K46 (own_allS (Or.inl (List.mem_of_getElem? (i := 7) rfl)) own_all0)).trans K49 (own_allS (Or.inr le1) own_all0))
  have F63 := (own_F (v := .null) (own_F (v := .null) G8_0 K46 (own_nl (Ne.symm D43) own_nin0)) K49 (own_nl D11 own_nin0))
  have F64 := (own_F (v := .null) (own_F (v := .null) G8_1 K46 (own_nl (Ne.symm D43) own_nin0)) K49 (own_nl D11 own_nin0))
  have F65 := (own_F (v := .null) (own_F (v := .null) G8_2 K46 (own_nl (Ne.symm D43) own_nin0)) K49 (own_nl D11 own_nin0))
  have F66 := (own_F (v := .null) (own_F (v := .null) G8_3 K46 (own_nl (Ne.symm D43) own_nin0)) K49 (own_nl D11 own_nin0))
  have F67 := (own_F (v := .null) (own_F (v := .null) G8_4 K46 (own_nl (Ne.symm D43) own_nin0)) K49 (own_nl D11 own_nin0))
  have F68 := (own_F (v := .null) (own_F (v := .null) G8_5 K46 (own_nl (Ne.symm D43) own_nin0)) K49 (own_nl D11 own_nin0))
  have F69 := (own_F (v := (.int (2 : Int32))) (own_F (v := (.int (2 : Int32))) G8_15 K46 (own_nl (Ne.symm D43) own_nin0)) K49 (own_nl D11 own_nin0))
  have F70 := (own_F (v := (.ref b1)) F46 K49 (own_nl D30 own_nin0))
  have F71 := (own_E F61 K49)
  have F72 := (own_F (v := (.ref a2)) (own_F (v := (.ref a2)) (own_F (v := (.ref a2)) F7 K8 (own_nl (Ne.symm D11) (own_nl (Ne.symm D11) (own_nl (Ne.symm D11) (own_nl (Ne.symm D11) (own_nl (Ne.symm D11) (own_nl (Ne.symm D11) (own_nr (sl_54 hw) (own_nr (sl_55 hw) (own_nr (sl_56 hw) (own_nr (sl_57 hw) (own_nr (sl_5 hw) (own_nr (sl_6 hw) (own_nr (sl_115 hw) (own_nr (sl_116 hw) (own_nr (sl_113 hw) (own_nl (Ne.symm D11) (own_nr (sl_114 hw) own_nin0)))))))))))))))))) K46 (own_nl (Ne.symm D30) own_nin0)) K49 (own_nr (sl_114 hw) own_nin0))
  have F73 := (own_F (v := .null) (own_F (v := .null) G8_6 K46 (own_nl (Ne.symm D30) own_nin0)) K49 (own_nr (sl_107 hw) own_nin0))
  have F74 := (own_F (v := (.ref a3)) (own_F (v := (.ref a3)) G8_10 K46 (own_nl (Ne.symm D30) own_nin0)) K49 (own_nr (sl_110 hw) own_nin0))
  have F75 := (own_F (v := .null) (own_F (v := .null) G8_7 K46 (own_nl (Ne.symm D30) own_nin0)) K49 (own_nr (sl_109 hw) own_nin0))
  have F76 := (own_F (v := .null) (own_F (v := .null) G8_11 K46 (own_nl (Ne.symm D30) own_nin0)) K49 (own_nr (sl_111 hw) own_nin0))
  have F77 := (own_F (v := .null) (own_F (v := .null) G8_13 K46 (own_nl (Ne.symm D30) own_nin0)) K49 (own_nr (sl_104 hw) own_nin0))
  have F78 := (own_F (v := .null) (own_F (v := .null) G8_12 K46 (own_nl (Ne.symm D30) own_nin0)) K49 (own_nr (sl_105 hw) own_nin0))
  have F79 := (own_F (v := (.ref b8_0)) (own_F (v := (.ref b8_0)) G8_14 K46 (own_nl (Ne.symm D30) own_nin0)) K49 (own_nr (sl_112 hw) own_nin0))
  have F80 := (own_F (v := .null) (own_F (v := .null) G8_8 K46 (own_nl (Ne.symm D30) own_nin0)) K49 (own_nr (sl_106 hw) own_nin0))
  have F81 := (own_F (v := .null) (own_F (v := .null) G8_9 K46 (own_nl (Ne.symm D30) own_nin0)) K49 (own_nr (sl_108 hw) own_nin0))
  have F82 := (own_E (own_E G8_17 K46) K49)
  have D83 : a1 ≠ b8_0 := (Nat.ne_of_lt (Nat.lt_of_lt_of_le F9.lt le_b8_0))
  have D84 : b1 ≠ b8_0 := (Nat.ne_of_lt (Nat.lt_of_lt_of_le F10.lt le_b8_0))
  have F85 := (own_F (v := .null) (own_F (v := .null) G8_18 K46 (own_nl (Ne.symm D83) own_nin0)) K49 (own_nl (Ne.symm D84) own_nin0))
  have F86 := (own_F (v := .null) (own_F (v := .null) G8_19 K46 (own_nl (Ne.symm D83) own_nin0)) K49 (own_nl (Ne.symm D84) own_nin0))
  have F87 := (own_F (v := .null) (own_F (v := .null) G8_20 K46 (own_nl (Ne.symm D83) own_nin0)) K49 (own_nl (Ne.symm D84) own_nin0))
  have F88 := (own_F (v := .null) (own_F (v := .null) G8_21 K46 (own_nl (Ne.symm D83) own_nin0)) K49 (own_nl (Ne.symm D84) own_nin0))
  have F89 := (own_F (v := .null) (own_F (v := .null) G8_22 K46 (own_nl (Ne.symm D83) own_nin0)) K49 (own_nl (Ne.symm D84) own_nin0))
  have F90 := (own_F (v := .null) (own_F (v := .null) G8_23 K46 (own_nl (Ne.symm D83) own_nin0)) K49 (own_nl (Ne.symm D84) own_nin0))
  have F91 := (own_F (v := .null) (own_F (v := .null) G8_24 K46 (own_nl (Ne.symm D83) own_nin0)) K49 (own_nl (Ne.symm D84) own_nin0))
  have F92 := (own_F (v := .null) (own_F (v := .null) G8_25 K46 (own_nl (Ne.symm D83) own_nin0)) K49 (own_nl (Ne.symm D84) own_nin0))
  have F93 := (own_F (v := .null) (own_F (v := .null) G8_26 K46 (own_nl (Ne.symm D83) own_nin0)) K49 (own_nl (Ne.symm D84) own_nin0))
  have F94 := (own_F (v := .null) (own_F (v := .null) G8_27 K46 (own_nl (Ne.symm D83) own_nin0)) K49 (own_nl (Ne.symm D84) own_nin0))
  have F95 := (own_F (v := (.int (2 : Int32))) (own_F (v := (.int (2 : Int32))) G8_28 K46 (own_nl (Ne.symm D83) own_nin0)) K49 (own_nl (Ne.symm D84) own_nin0))
  exact own_ret0 Y49 hx hlk Bd.returns (hb hby d6_38) ⟨rfl, b1, b8_0, KC62, le1, sz_b8_0, F63, F64, F65, F66, F67, F68, F69, F70, F71, F72, F73, F74, F75, F76, F77, F78, F79, F80, F81, G49_0, F82, F85, F86, F87, F88, F89, F90, F91, F92, F93, F94, F95, D84⟩ (by decide) (by decide)
def P13_23 (Z : State) (a1 : Addr) (a2 : Addr) (h0 : Heap) (h : Heap) : Prop := own_Kp h0 h [(a1, Jvm.RoadKit.slotOf Z zs0 "key2" zs1), (a1, Jvm.RoadKit.slotOf Z zs0 "value2" zs1), (a1, Jvm.RoadKit.slotOf Z zs0 "key1" zs1), (a1, Jvm.RoadKit.slotOf Z zs0 "value1" zs1), (a1, Jvm.RoadKit.slotOf Z zs0 "key0" zs1), (a1, Jvm.RoadKit.slotOf Z zs0 "value0" zs1)] ∧ Fld Z h a1 zs0 "key2" zs1 .null ∧ Fld Z h a1 zs0 "value2" zs1 .null ∧ Fld Z h a1 zs0 "key1" zs1 (.ref a2) ∧ Fld Z h a1 zs0 "value1" zs1 .null ∧ Fld Z h a1 zs0 "key0" zs1 (.ref a2) ∧ Fld Z h a1 zs0 "value0" zs1 .null
theorem P13_23_sz {Z : State} {a1 : Addr} {a2 : Addr} {h0 : Heap} : ∀ v h', (own_R none (P13_23 Z a1 a2 h0)) v h' → Array.size h0 ≤ Array.size h' := by
  intro v h' q
  obtain ⟨-, K, -⟩ := q
  exact K.1
set_option maxRecDepth 65536 in
set_option maxHeartbeats 40000000 in
theorem rm13_23 (l : Launch) (Z : State) (a0 : Array Value) (hw : ∀ d ∈ tables_1, d.before a0 Z = true) (ws : List Jvm.Cond) (a1 : Addr) (a2 : Addr) (h0 : Heap) (n0 : Nat) (Z0 : n0 ≤ Array.size h0) (P0 : Sta Z h0 zs0 "NULL_KEY" zs1 (.ref a2)) (P1 : Fld Z h0 a1 zs0 "key1" zs1 .null) (P2 : Fld Z h0 a1 zs0 "key2" zs1 .null) (P3 : Exa Z h0 a1 zs0) (P4 : n0 ≤ a1) (P5 : Fld Z h0 a1 zs0 "value1" zs1 .null) (P6 : Fld Z h0 a1 zs0 "value2" zs1 .null) (P7 : Fld Z h0 a1 zs0 "key0" zs1 (.ref a2)) (P8 : Fld Z h0 a1 zs0 "value0" zs1 .null) :
    MetFree l (⟨zs0, "insertEntry", zs20⟩ : MethodName) (head1 (Jvm.Cond.code (⟨zs0, "insertEntry", zs20⟩ : MethodName) prog_25_method_4_code 5 none :: ws) ({ frames := 1, cells := 0, slots := 0, locals := 12 } : Room)) (fun a U => a = #[(.ref a1), (.int (0 : Int32)), .null, .null] ∧ Z.Warmed39 U.vm ∧ U.heap = h0) (fun _ _ _ _ _ => True) (fun _ U o U' => ∃ v L, o = .returned v ∧ own_QQ n0 (own_R none (P13_23 Z a1 a2 h0)) v U'.heap L ∧ FrameEnd U o U' L ({ frames := 1, cells := 0, slots := 0, locals := 12 } : Room).cells ({ frames := 1, cells := 0, slots := 0, locals := 12 } : Room).slots) := by
  refine MetFree.of_bodySF (plainFor_of_name pn_com_example_napkintree_napkintree_balancing_MultiwayTree_Node) hisR ?_
  intro p e s m args below meth c s₁ Bd hml0 hP hK
  obtain ⟨rfl, hZ, hh⟩ := hP
  have hx := Bd.exec
  have hby := Bd.bytes
  have hml : c.maxLocals = 5 := hml0
  have hown : s.vm.findClass zs0 = some m.cls := findClass_of_methodNamed Bd.named
  have hnm := (name_of_methodNamed Bd.named Bd.method).1
  have hlk : meth.locks = false := BodyLoose.notSynchronized Bd
  have Y0 : own_S p l e ({ frames := 1, cells := 0, slots := 0, locals := 12 } : Room) s m #[(.ref a1), (.int (0 : Int32)), .null, .null] below meth c n0 s₁ h0 0 0 := ⟨[], Stand.of_body Bd, Fr.nil n0, by rw [← hh, Bd.state]; rfl, Z0⟩
  refine (?_ : own_Fin p e below _ _)
  refine own_st (fun t k => castTop (ef_13_RINN m a1 (0 : Int32)) k) ?_
  refine own_aloadN Y0 hx (pc' := 1) (hb hby d13_0) rfl rfl rfl ?_
  refine own_static Y0 hx (pc' := 4) (W := 0) (cl' := 0) (sl' := 0) (as' := [.null]) (S' := []) hZ hown (own_w hw 107 rfl) (own_w hw 108 rfl) (own_w hw 3 rfl) (own_w hw 109 rfl) (by decide) (rm14_9 l Z a0 hw [] a2 h0 n0 (own_sz Y0) P0) (hb hby d13_1) rfl (by rw [hml]; rfl) rfl (lenOf pd__Ljava_lang_Object__Ljava_lang_Object_ rfl) rfl (by decide) (by decide) rfl rfl (by decide) (by decide) own_Same.sz (own_fixS (S2 := [(.ref a2)]) rfl (fun T1 Y1 => ?_))
  refine own_astore Y1 hx (pc' := 6) (Ls' := #[.val (.ref a1), .val (.int (0 : Int32)), .val .null, .val .null, .val (.ref a2)]) (hb hby d13_4) rfl rfl rfl ?_
  refine own_iloadN Y1 hx (pc' := 7) (hb hby d13_6) rfl rfl ?_
  refine own_iconst Y1 hx (pc' := 8) (x := (2 : Int32)) (hb hby d13_7) rfl (by decide) ?_
  refine own_icmpYes Y1 hx (pc' := 25) (hb hby d13_8) (by decide) (by decide) (by decide) ?_
  refine own_aloadN Y1 hx (pc' := 26) (hb hby d13_25) rfl rfl rfl ?_
  refine own_aloadN Y1 hx (pc' := 27) (hb hby d13_26) rfl rfl rfl ?_
  refine own_getF Y1 hx (pc' := 30) (v := .null) hZ hown (host := "") (Or.inl (own_w hw 81 rfl)) Via.refl P1 (hb hby d13_27) rfl (fun T2 Y2 => ?_)
  refine own_putF Y2 hx (pc' := 33) hZ hown (host := "") (Or.inl (own_w hw 110 rfl)) Via.refl P2 P3 (Or.inl (own_w hw 63 rfl)) (own_w hw 2 rfl) (ty := (.object zs2)) (by decide) rfl rfl P4 (hb hby d13_30) rfl (fun T3 h3 Y3 K3 F3 => ?_)
  refine own_aloadN Y3 hx (pc' := 34) (hb hby d13_33) rfl rfl rfl ?_
  refine own_aloadN Y3 hx (pc' := 35) (hb hby d13_34) rfl rfl rfl ?_
  have F4 := (own_F (v := .null) P5 K3 (own_nr (sl_19 hw) own_nin0))
  refine own_getF Y3 hx (pc' := 38) (v := .null) hZ hown (host := "") (Or.inl (own_w hw 93 rfl)) Via.refl F4 (hb hby d13_35) rfl (fun T5 Y5 => ?_)
  have F6 := (own_F (v := .null) P6 K3 (own_nr (sl_23 hw) own_nin0))
  have F7 := (own_E P3 K3)
  refine own_putF Y5 hx (pc' := 41) hZ hown (host := "") (Or.inl (own_w hw 111 rfl)) Via.refl F6 F7 (Or.inl (own_w hw 67 rfl)) (own_w hw 2 rfl) (ty := (.object zs2)) (by decide) rfl rfl P4 (hb hby d13_38) rfl (fun T8 h8 Y8 K8 F8 => ?_)
  refine own_iloadN Y8 hx (pc' := 42) (hb hby d13_41) rfl rfl ?_
  refine own_iconst Y8 hx (pc' := 43) (x := (1 : Int32)) (hb hby d13_42) rfl (by decide) ?_
  refine own_icmpYes Y8 hx (pc' := 60) (hb hby d13_43) (by decide) (by decide) (by decide) ?_
  refine own_aloadN Y8 hx (pc' := 61) (hb hby d13_60) rfl rfl rfl ?_
  refine own_aloadN Y8 hx (pc' := 62) (hb hby d13_61) rfl rfl rfl ?_
  have F9 := (own_F (v := (.ref a2)) (own_F (v := (.ref a2)) P7 K3 (own_nr (sl_30 hw) own_nin0)) K8 (own_nr (sl_31 hw) own_nin0))
  refine own_getF Y8 hx (pc' := 65) (v := (.ref a2)) hZ hown (host := "") (Or.inl (own_w hw 112 rfl)) Via.refl F9 (hb hby d13_62) rfl (fun T10 Y10 => ?_)
  have F11 := (own_F (v := .null) (own_F (v := .null) P1 K3 (own_nr (sl_32 hw) own_nin0)) K8 (own_nr (sl_33 hw) own_nin0))
  have F12 := (own_E F7 K8)
  refine own_putF Y10 hx (pc' := 68) hZ hown (host := "") (Or.inl (own_w hw 81 rfl)) Via.refl F11 F12 (Or.inl (own_w hw 82 rfl)) (own_w hw 2 rfl) (ty := (.object zs2)) (by decide) rfl rfl P4 (hb hby d13_65) rfl (fun T13 h13 Y13 K13 F13 => ?_)
  refine own_aloadN Y13 hx (pc' := 69) (hb hby d13_68) rfl rfl rfl ?_
  refine own_aloadN Y13 hx (pc' := 70) (hb hby d13_69) rfl rfl rfl ?_
  have F14 := (own_F (v := .null) (own_F (v := .null) (own_F (v := .null) P8 K3 (own_nr (sl_35 hw) own_nin0)) K8 (own_nr (sl_36 hw) own_nin0)) K13 (own_nr (sl_37 hw) own_nin0))
  refine own_getF Y13 hx (pc' := 73) (v := .null) hZ hown (host := "") (Or.inl (own_w hw 113 rfl)) Via.refl F14 (hb hby d13_70) rfl (fun T15 Y15 => ?_)
  have F16 := (own_F (v := .null) (own_F (v := .null) F4 K8 (own_nr (sl_38 hw) own_nin0)) K13 (own_nr (sl_18 hw) own_nin0))
  have F17 := (own_E F12 K13)
  refine own_putF Y15 hx (pc' := 76) hZ hown (host := "") (Or.inl (own_w hw 93 rfl)) Via.refl F16 F17 (Or.inl (own_w hw 94 rfl)) (own_w hw 2 rfl) (ty := (.object zs2)) (by decide) rfl rfl P4 (hb hby d13_73) rfl (fun T18 h18 Y18 K18 F18 => ?_)
  refine own_aloadN Y18 hx (pc' := 77) (hb hby d13_76) rfl rfl rfl ?_
  refine own_aload Y18 hx (pc' := 79) (hb hby d13_77) rfl rfl rfl ?_
  have F19 := (own_F (v := (.ref a2)) (own_F (v := (.ref a2)) F9 K13 (own_nr (sl_39 hw) own_nin0)) K18 (own_nr (sl_40 hw) own_nin0))
  have F20 := (own_E F17 K18)
  refine own_putF Y18 hx (pc' := 82) hZ hown (host := "") (Or.inl (own_w hw 112 rfl)) Via.refl F19 F20 (Or.inl (own_w hw 65 rfl)) (own_w hw 2 rfl) (ty := (.object zs2)) (by decide) rfl rfl P4 (hb hby d13_79) rfl (fun T21 h21 Y21 K21 F21 => ?_)
  refine own_aloadN Y21 hx (pc' := 83) (hb hby d13_82) rfl rfl rfl ?_
  refine own_aloadN Y21 hx (pc' := 84) (hb hby d13_83) rfl rfl rfl ?_
  have F22 := (own_F (v := .null) (own_F (v := .null) F14 K18 (own_nr (sl_41 hw) own_nin0)) K21 (own_nr (sl_4 hw) own_nin0))
  have F23 := (own_E F20 K21)
  refine own_putF Y21 hx (pc' := 87) hZ hown (host := "") (Or.inl (own_w hw 113 rfl)) Via.refl F22 F23 (Or.inl (own_w hw 69 rfl)) (own_w hw 2 rfl) (ty := (.object zs2)) (by decide) rfl rfl P4 (hb hby d13_84) rfl (fun T24 h24 Y24 K24 F24 => ?_)
  have KC25 : own_Kp h0 h24 [(a1, Jvm.RoadKit.slotOf Z zs0 "key2" zs1), (a1, Jvm.RoadKit.slotOf Z zs0 "value2" zs1), (a1, Jvm.RoadKit.slotOf Z zs0 "key1" zs1), (a1, Jvm.RoadKit.slotOf Z zs0 "value1" zs1), (a1, Jvm.RoadKit.slotOf Z zs0 "key0" zs1), (a1, Jvm.RoadKit.slotOf Z zs0 "value0" zs1)] := (((((((own_Kp.refl h0 [(a1, Jvm.RoadKit.slotOf Z zs0 "key2" zs1), (a1, Jvm.RoadKit.slotOf Z zs0 "value2" zs1), (a1, Jvm.RoadKit.slotOf Z zs0 "key1" zs1), (a1, Jvm.RoadKit.slotOf Z zs0 "value1" zs1), (a1, Jvm.RoadKit.slotOf Z zs0 "key0" zs1), (a1, Jvm.RoadKit.slotOf Z zs0 "value0" zs1)]).trans K3 (own_allS (Or.inl (List.mem_of_getElem? (i := 0) rfl)) own_all0)).trans K8 (own_allS (Or.inl (List.mem_of_getElem? (i := 1) rfl)) own_all0)).trans K13 (own_allS (Or.inl (List.mem_of_getElem? (i := 2) rfl)) own_all0)).trans K18 (own_allS (Or.inl (List.mem_of_getElem? (i := 3) rfl)) own_all0)).trans K21 (own_allS (Or.inl (List.mem_of_getElem? (i := 4) rfl)) own_all0)).trans K24 (own_allS (Or.inl (List.mem_of_getElem? (i := 5) rfl)) own_all0))
  have F26 := (own_F (v := .null) (own_F (v := .null) (own_F (v := .null) (own_F (v := .null) (own_F (v := .null) F3 K8 (own_nr (sl_42 hw) own_nin0)) K13 (own_nr (sl_17 hw) own_nin0)) K18 (own_nr (sl_43 hw) own_nin0)) K21 (own_nr (sl_44 hw) own_nin0)) K24 (own_nr (sl_45 hw) own_nin0))
  have F27 := (own_F (v := .null) (own_F (v := .null) (own_F (v := .null) (own_F (v := .null) F8 K13 (own_nr (sl_22 hw) own_nin0)) K18 (own_nr (sl_24 hw) own_nin0)) K21 (own_nr (sl_46 hw) own_nin0)) K24 (own_nr (sl_47 hw) own_nin0))
  have F28 := (own_F (v := (.ref a2)) (own_F (v := (.ref a2)) (own_F (v := (.ref a2)) F13 K18 (own_nr (sl_48 hw) own_nin0)) K21 (own_nr (sl_49 hw) own_nin0)) K24 (own_nr (sl_50 hw) own_nin0))
  have F29 := (own_F (v := .null) (own_F (v := .null) F18 K21 (own_nr (sl_51 hw) own_nin0)) K24 (own_nr (sl_52 hw) own_nin0))
  have F30 := (own_F (v := (.ref a2)) F21 K24 (own_nr (sl_53 hw) own_nin0))
  exact own_ret0 Y24 hx hlk Bd.returns (hb hby d13_87) ⟨rfl, KC25, F26, F27, F28, F29, F30, F24⟩ (by decide) (by decide)
def P16_24 (Z : State) (a1 : Addr) (a2 : Addr) (a3 : Addr) (h0 : Heap) (h : Heap) : Prop := own_Kp h0 h [(a1, Jvm.RoadKit.slotOf Z zs0 "child3" zs16), (a1, Jvm.RoadKit.slotOf Z zs0 "child2" zs16), (a1, Jvm.RoadKit.slotOf Z zs0 "child1" zs16)] ∧ Fld Z h a1 zs0 "child3" zs16 .null ∧ Fld Z h a1 zs0 "child2" zs16 (.ref a3) ∧ Fld Z h a1 zs0 "child1" zs16 (.ref a2)
theorem P16_24_sz {Z : State} {a1 : Addr} {a2 : Addr} {a3 : Addr} {h0 : Heap} : ∀ v h', (own_R none (P16_24 Z a1 a2 a3 h0)) v h' → Array.size h0 ≤ Array.size h' := by
  intro v h' q
  obtain ⟨-, K, -⟩ := q
  exact K.1
set_option maxRecDepth 65536 in
set_option maxHeartbeats 40000000 in
theorem rm16_24 (l : Launch) (Z : State) (a0 : Array Value) (hw : ∀ d ∈ tables_1, d.before a0 Z = true) (ws : List Jvm.Cond) (a1 : Addr) (a2 : Addr) (a3 : Addr) (h0 : Heap) (n0 : Nat) (Z0 : n0 ≤ Array.size h0) (P0 : Fld Z h0 a1 zs0 "child2" zs16 .null) (P1 : Fld Z h0 a1 zs0 "child3" zs16 .null) (P2 : Exa Z h0 a1 zs0) (P3 : n0 ≤ a1) (P4 : Fld Z h0 a1 zs0 "child1" zs16 (.ref a3)) :
    MetFree l (⟨zs0, "insertChild", zs21⟩ : MethodName) (head1 (Jvm.Cond.code (⟨zs0, "insertChild", zs21⟩ : MethodName) prog_25_method_6_code 3 none :: ws) ({ frames := 0, cells := 0, slots := 0, locals := 0 } : Room)) (fun a U => a = #[(.ref a1), (.int (1 : Int32)), (.ref a2)] ∧ Z.Warmed39 U.vm ∧ U.heap = h0) (fun _ _ _ _ _ => True) (fun _ U o U' => ∃ v L, o = .returned v ∧ own_QQ n0 (own_R none (P16_24 Z a1 a2 a3 h0)) v U'.heap L ∧ FrameEnd U o U' L ({ frames := 0, cells := 0, slots := 0, locals := 0 } : Room).cells ({ frames := 0, cells := 0, slots := 0, locals := 0 } : Room).slots) := by
  refine MetFree.of_bodySF (plainFor_of_name pn_com_example_napkintree_napkintree_balancing_MultiwayTree_Node) hisR ?_
  intro p e s m args below meth c s₁ Bd hml0 hP hK
  obtain ⟨rfl, hZ, hh⟩ := hP
  have hx := Bd.exec
  have hby := Bd.bytes
  have hml : c.maxLocals = 3 := hml0
  have hown : s.vm.findClass zs0 = some m.cls := findClass_of_methodNamed Bd.named
  have hnm := (name_of_methodNamed Bd.named Bd.method).1
  have hlk : meth.locks = false := BodyLoose.notSynchronized Bd
  have Y0 : own_S p l e ({ frames := 0, cells := 0, slots := 0, locals := 0 } : Room) s m #[(.ref a1), (.int (1 : Int32)), (.ref a2)] below meth c n0 s₁ h0 0 0 := ⟨[], Stand.of_body Bd, Fr.nil n0, by rw [← hh, Bd.state]; rfl, Z0⟩
  refine (?_ : own_Fin p e below _ _)
  refine own_st (fun t k => castTop (ef_16_RIR m a1 (1 : Int32) a2) k) ?_
  refine own_iloadN Y0 hx (pc' := 1) (hb hby d16_0) rfl rfl ?_
  refine own_iconst Y0 hx (pc' := 2) (x := (3 : Int32)) (hb hby d16_1) rfl (by decide) ?_
  refine own_icmpYes Y0 hx (pc' := 13) (hb hby d16_2) (by decide) (by decide) (by decide) ?_
  refine own_aloadN Y0 hx (pc' := 14) (hb hby d16_13) rfl rfl rfl ?_
  refine own_aloadN Y0 hx (pc' := 15) (hb hby d16_14) rfl rfl rfl ?_
  refine own_getF Y0 hx (pc' := 18) (v := .null) hZ hown (host := "") (Or.inl (own_w hw 123 rfl)) Via.refl P0 (hb hby d16_15) rfl (fun T1 Y1 => ?_)
  refine own_putF Y1 hx (pc' := 21) hZ hown (host := "") (Or.inl (own_w hw 124 rfl)) Via.refl P1 P2 (Or.inl (own_w hw 73 rfl)) (own_w hw 2 rfl) (ty := (.object zs0)) (by decide) rfl rfl P3 (hb hby d16_18) rfl (fun T2 h2 Y2 K2 F2 => ?_)
  refine own_iloadN Y2 hx (pc' := 22) (hb hby d16_21) rfl rfl ?_
  refine own_iconst Y2 hx (pc' := 23) (x := (2 : Int32)) (hb hby d16_22) rfl (by decide) ?_
  refine own_icmpYes Y2 hx (pc' := 34) (hb hby d16_23) (by decide) (by decide) (by decide) ?_
  refine own_aloadN Y2 hx (pc' := 35) (hb hby d16_34) rfl rfl rfl ?_
  refine own_aloadN Y2 hx (pc' := 36) (hb hby d16_35) rfl rfl rfl ?_
  have F3 := (own_F (v := (.ref a3)) P4 K2 (own_nr (sl_76 hw) own_nin0))
  refine own_getF Y2 hx (pc' := 39) (v := (.ref a3)) hZ hown (host := "") (Or.inl (own_w hw 125 rfl)) Via.refl F3 (hb hby d16_36) rfl (fun T4 Y4 => ?_)
  have F5 := (own_F (v := .null) P0 K2 (own_nr (sl_77 hw) own_nin0))
  have F6 := (own_E P2 K2)
  refine own_putF Y4 hx (pc' := 42) hZ hown (host := "") (Or.inl (own_w hw 123 rfl)) Via.refl F5 F6 (Or.inl (own_w hw 71 rfl)) (own_w hw 2 rfl) (ty := (.object zs0)) (by decide) rfl rfl P3 (hb hby d16_39) rfl (fun T7 h7 Y7 K7 F7 => ?_)
  refine own_iloadN Y7 hx (pc' := 43) (hb hby d16_42) rfl rfl ?_
  refine own_iconst Y7 hx (pc' := 44) (x := (1 : Int32)) (hb hby d16_43) rfl (by decide) ?_
  refine own_icmpNo Y7 hx (pc' := 47) (hb hby d16_44) rfl (by decide) ?_
  refine own_aloadN Y7 hx (pc' := 48) (hb hby d16_47) rfl rfl rfl ?_
  refine own_aloadN Y7 hx (pc' := 49) (hb hby d16_48) rfl rfl rfl ?_
  have F8 := (own_F (v := (.ref a3)) F3 K7 (own_nr (sl_78 hw) own_nin0))
  have F9 := (own_E F6 K7)
  refine own_putF Y7 hx (pc' := 52) hZ hown (host := "") (Or.inl (own_w hw 125 rfl)) Via.refl F8 F9 (Or.inl (own_w hw 75 rfl)) (own_w hw 2 rfl) (ty := (.object zs0)) (by decide) rfl rfl P3 (hb hby d16_49) rfl (fun T10 h10 Y10 K10 F10 => ?_)
  refine own_goto Y10 hx (pc' := 68) (hb hby d16_52) (by decide) (by decide) ?_
  have KC11 : own_Kp h0 h10 [(a1, Jvm.RoadKit.slotOf Z zs0 "child3" zs16), (a1, Jvm.RoadKit.slotOf Z zs0 "child2" zs16), (a1, Jvm.RoadKit.slotOf Z zs0 "child1" zs16)] := ((((own_Kp.refl h0 [(a1, Jvm.RoadKit.slotOf Z zs0 "child3" zs16), (a1, Jvm.RoadKit.slotOf Z zs0 "child2" zs16), (a1, Jvm.RoadKit.slotOf Z zs0 "child1" zs16)]).trans K2 (own_allS (Or.inl (List.mem_of_getElem? (i := 0) rfl)) own_all0)).trans K7 (own_allS (Or.inl (List.mem_of_getElem? (i := 1) rfl)) own_all0)).trans K10 (own_allS (Or.inl (List.mem_of_getElem? (i := 2) rfl)) own_all0))
  have F12 := (own_F (v := .null) (own_F (v := .null) F2 K7 (own_nr (sl_10 hw) own_nin0)) K10 (own_nr (sl_79 hw) own_nin0))
  have F13 := (own_F (v := (.ref a3)) F7 K10 (own_nr (sl_80 hw) own_nin0))
  exact own_ret0 Y10 hx hlk Bd.returns (hb hby d16_68) ⟨rfl, KC11, F12, F13, F10⟩ (by decide) (by decide)
def P12_25 (Z : State) (a1 : Addr) (a2 : Addr) (a3 : Addr) (a4 : Addr) (a5 : Addr) (h0 : Heap) (h : Heap) : Prop := own_Kp h0 h [(a1, Jvm.RoadKit.slotOf Z zs0 "key2" zs1), (a1, Jvm.RoadKit.slotOf Z zs0 "value2" zs1), (a1, Jvm.RoadKit.slotOf Z zs0 "key1" zs1), (a1, Jvm.RoadKit.slotOf Z zs0 "value1" zs1), (a1, Jvm.RoadKit.slotOf Z zs0 "key0" zs1), (a1, Jvm.RoadKit.slotOf Z zs0 "value0" zs1), (a1, Jvm.RoadKit.slotOf Z zs0 "child3" zs16), (a1, Jvm.RoadKit.slotOf Z zs0 "child2" zs16), (a1, Jvm.RoadKit.slotOf Z zs0 "child1" zs16)] ∧ Fld Z h a1 zs0 "key2" zs1 .null ∧ Fld Z h a1 zs0 "value2" zs1 .null ∧ Fld Z h a1 zs0 "key1" zs1 (.ref a3) ∧ Fld Z h a1 zs0 "value1" zs1 .null ∧ Fld Z h a1 zs0 "key0" zs1 (.ref a3) ∧ Fld Z h a1 zs0 "value0" zs1 .null ∧ Fld Z h a1 zs0 "child3" zs16 .null ∧ Fld Z h a1 zs0 "child2" zs16 (.ref a5) ∧ Fld Z h a1 zs0 "child1" zs16 (.ref a2)
theorem P12_25_sz {Z : State} {a1 : Addr} {a2 : Addr} {a3 : Addr} {a4 : Addr} {a5 : Addr} {h0 : Heap} : ∀ v h', (own_R none (P12_25 Z a1 a2 a3 a4 a5 h0)) v h' → Array.size h0 ≤ Array.size h' := by
  intro v h' q
  obtain ⟨-, K, -⟩ := q
  exact K.1
set_option maxRecDepth 65536 in
set_option maxHeartbeats 40000000 in
theorem rm12_25 (l : Launch) (Z : State) (a0 : Array Value) (hw : ∀ d ∈ tables_1, d.before a0 Z = true) (ws : List Jvm.Cond) (a1 : Addr) (a2 : Addr) (a3 : Addr) (a4 : Addr) (a5 : Addr) (h0 : Heap) (n0 : Nat) (Z0 : n0 ≤ Array.size h0) (P0 : Exa Z h0 a1 zs0) (P1 : Sta Z h0 zs0 "NULL_KEY" zs1 (.ref a3)) (P2 : Fld Z h0 a1 zs0 "key1" zs1 .null) (P3 : Fld Z h0 a1 zs0 "key2" zs1 .null) (P4 : n0 ≤ a1) (P5 : Fld Z h0 a1 zs0 "value1" zs1 .null) (P6 : Fld Z h0 a1 zs0 "value2" zs1 .null) (P7 : Fld Z h0 a1 zs0 "key0" zs1 (.ref a3)) (P8 : Fld Z h0 a1 zs0 "value0" zs1 .null) (P9 : Fld Z h0 a1 zs0 "child0" zs16 (.ref a4)) (P10 : Fld Z h0 a1 zs0 "child2" zs16 .null) (P11 : Fld Z h0 a1 zs0 "child3" zs16 .null) (P12 : Fld Z h0 a1 zs0 "child1" zs16 (.ref a5)) :
    MetFree l (⟨zs0, "insert", zs22⟩ : MethodName) (head1 (Jvm.Cond.code (⟨zs0, "insert", zs22⟩ : MethodName) prog_25_method_2_code 6 none :: ws) ({ frames := 2, cells := 0, slots := 0, locals := 28 } : Room)) (fun a U => a = #[(.ref a1), (.int (0 : Int32)), .null, .null, (.int (1 : Int32)), (.ref a2)] ∧ Z.Warmed39 U.vm ∧ U.heap = h0) (fun _ _ _ _ _ => True) (fun _ U o U' => ∃ v L, o = .returned v ∧ own_QQ n0 (own_R none (P12_25 Z a1 a2 a3 a4 a5 h0)) v U'.heap L ∧ FrameEnd U o U' L ({ frames := 2, cells := 0, slots := 0, locals := 28 } : Room).cells ({ frames := 2, cells := 0, slots := 0, locals := 28 } : Room).slots) := by
  refine MetFree.of_bodySF (plainFor_of_name pn_com_example_napkintree_napkintree_balancing_MultiwayTree_Node) hisR ?_
  intro p e s m args below meth c s₁ Bd hml0 hP hK
  obtain ⟨rfl, hZ, hh⟩ := hP
  have hx := Bd.exec
  have hby := Bd.bytes
  have hml : c.maxLocals = 6 := hml0
  have hown : s.vm.findClass zs0 = some m.cls := findClass_of_methodNamed Bd.named
  have hnm := (name_of_methodNamed Bd.named Bd.method).1
  have hlk : meth.locks = false := BodyLoose.notSynchronized Bd
  have Y0 : own_S p l e ({ frames := 2, cells := 0, slots := 0, locals := 28 } : Room) s m #[(.ref a1), (.int (0 : Int32)), .null, .null, (.int (1 : Int32)), (.ref a2)] below meth c n0 s₁ h0 0 0 := ⟨[], Stand.of_body Bd, Fr.nil n0, by rw [← hh, Bd.state]; rfl, Z0⟩
  refine (?_ : own_Fin p e below _ _)
  refine own_st (fun t k => castTop (ef_12_RINNIR m a1 (0 : Int32) (1 : Int32) a2) k) ?_
  refine own_aloadN Y0 hx (pc' := 1) (hb hby d12_0) rfl rfl rfl ?_
  refine own_iloadN Y0 hx (pc' := 2) (hb hby d12_1) rfl rfl ?_
  refine own_aloadN Y0 hx (pc' := 3) (hb hby d12_2) rfl rfl rfl ?_
  refine own_aloadN Y0 hx (pc' := 4) (hb hby d12_3) rfl rfl rfl ?_
  refine own_virtual Y0 hx (pc' := 7) (W := 0) (cl' := 0) (sl' := 0) (as' := [(.int (0 : Int32)), .null, .null]) (S' := []) (a := a1) hZ hown (own_w hw 102 rfl) (own_w hw 103 rfl) (notFace_of_selects (args := #[]) (mvT hZ (own_w hw 105 rfl))) (own_w hw 105 rfl) (own_w hw 104 rfl) (own_w hw 3 rfl) (own_w hw 106 rfl) (by decide) P0 (rm13_23 l Z a0 hw [] a1 a3 h0 n0 (own_sz Y0) P1 P2 P3 P0 P4 P5 P6 P7 P8) (hb hby d12_4) rfl (by rw [hml]; rfl) rfl (lenOf pd__ILjava_lang_Object_Ljava_lang_Object__V rfl) rfl (by decide) (by decide) rfl rfl (by decide) (by decide) P13_23_sz (own_fixR (S2 := []) rfl (fun T1 h1 Y1 R1 => ?_))
  obtain ⟨K1, G1_0, G1_1, G1_2, G1_3, G1_4, G1_5⟩ := R1
  refine own_aloadN Y1 hx (pc' := 8) (hb hby d12_7) rfl rfl rfl ?_
  have F3 := (own_E P0 K1)
  have F4 := (own_F (v := (.ref a4)) P9 K1 (own_nr (sl_54 hw) (own_nr (sl_55 hw) (own_nr (sl_56 hw) (own_nr (sl_57 hw) (own_nr (sl_5 hw) (own_nr (sl_6 hw) own_nin0)))))))
  refine own_virtual Y1 hx (pc' := 11) (W := 0) (cl' := 0) (sl' := 0) (as' := []) (S' := []) (a := a1) hZ hown (own_w hw 114 rfl) (own_w hw 115 rfl) (notFace_of_selects (args := #[]) (mvT hZ (own_w hw 117 rfl))) (own_w hw 117 rfl) (own_w hw 116 rfl) (own_w hw 3 rfl) (own_w hw 118 rfl) (by decide) F3 (rm15_11 l Z a0 hw [] a1 a4 h1 n0 (own_sz Y1) F4) (hb hby d12_8) rfl (by rw [hml]; rfl) rfl (lenOf pd___Z rfl) rfl (by decide) (by decide) rfl rfl (by decide) (by decide) own_Same.sz (own_fixS (S2 := [(.int (0 : Int32))]) rfl (fun T2 Y2 => ?_))
  refine own_ifNo Y2 hx (pc' := 14) (hb hby d12_11) rfl (by decide) ?_
  refine own_aloadN Y2 hx (pc' := 15) (hb hby d12_14) rfl rfl rfl ?_
  refine own_iload Y2 hx (pc' := 17) (hb hby d12_15) rfl rfl ?_
  refine own_aload Y2 hx (pc' := 19) (hb hby d12_17) rfl rfl rfl ?_
  have F6 := (own_F (v := .null) P10 K1 (own_nr (sl_59 hw) (own_nr (sl_60 hw) (own_nr (sl_61 hw) (own_nr (sl_62 hw) (own_nr (sl_63 hw) (own_nr (sl_64 hw) own_nin0)))))))
  have F7 := (own_F (v := .null) P11 K1 (own_nr (sl_66 hw) (own_nr (sl_67 hw) (own_nr (sl_68 hw) (own_nr (sl_69 hw) (own_nr (sl_70 hw) (own_nr (sl_71 hw) own_nin0)))))))
  have F8 := (own_F (v := (.ref a5)) P12 K1 (own_nr (sl_72 hw) (own_nr (sl_73 hw) (own_nr (sl_74 hw) (own_nr (sl_75 hw) (own_nr (sl_7 hw) (own_nr (sl_8 hw) own_nin0)))))))
  refine own_private Y2 hx (pc' := 22) (W := 0) (cl' := 0) (sl' := 0) (as' := [(.int (1 : Int32)), (.ref a2)]) (S' := []) (a := a1) hZ hown (own_w hw 119 rfl) (own_w hw 120 rfl) (own_selP hZ (own_nfI (own_w hw 2 rfl)) (own_w hw 121 rfl) (own_w hw 120 rfl) (by decide)) (own_w hw 121 rfl) (own_w hw 3 rfl) (own_w hw 122 rfl) (by decide) F3 (rm16_24 l Z a0 hw [] a1 a2 a5 h1 n0 (own_sz Y2) F6 F7 F3 P4 F8) (hb hby d12_19) rfl (by rw [hml]; rfl) rfl (lenOf pd__ILcom_example_napkintree_napkintree_balancing_MultiwayTree_Node__V rfl) rfl (by decide) (by decide) rfl rfl (by decide) (by decide) P16_24_sz (own_fixR (S2 := []) rfl (fun T5 h5 Y5 R5 => ?_))
  obtain ⟨K5, G5_0, G5_1, G5_2⟩ := R5
  have KC9 : own_Kp h0 h5 [(a1, Jvm.RoadKit.slotOf Z zs0 "key2" zs1), (a1, Jvm.RoadKit.slotOf Z zs0 "value2" zs1), (a1, Jvm.RoadKit.slotOf Z zs0 "key1" zs1), (a1, Jvm.RoadKit.slotOf Z zs0 "value1" zs1), (a1, Jvm.RoadKit.slotOf Z zs0 "key0" zs1), (a1, Jvm.RoadKit.slotOf Z zs0 "value0" zs1), (a1, Jvm.RoadKit.slotOf Z zs0 "child3" zs16), (a1, Jvm.RoadKit.slotOf Z zs0 "child2" zs16), (a1, Jvm.RoadKit.slotOf Z zs0 "child1" zs16)] := (((own_Kp.refl h0 [(a1, Jvm.RoadKit.slotOf Z zs0 "key2" zs1), (a1, Jvm.RoadKit.slotOf Z zs0 "value2" zs1), (a1, Jvm.RoadKit.slotOf Z zs0 "key1" zs1), (a1, Jvm.RoadKit.slotOf Z zs0 "value1" zs1), (a1, Jvm.RoadKit.slotOf Z zs0 "key0" zs1), (a1, Jvm.RoadKit.slotOf Z zs0 "value0" zs1), (a1, Jvm.RoadKit.slotOf Z zs0 "child3" zs16), (a1, Jvm.RoadKit.slotOf Z zs0 "child2" zs16), (a1, Jvm.RoadKit.slotOf Z zs0 "child1" zs16)]).trans K1 (own_allS (Or.inl (List.mem_of_getElem? (i := 0) rfl)) (own_allS (Or.inl (List.mem_of_getElem? (i := 1) rfl)) (own_allS (Or.inl (List.mem_of_getElem? (i := 2) rfl)) (own_allS (Or.inl (List.mem_of_getElem? (i := 3) rfl)) (own_allS (Or.inl (List.mem_of_getElem? (i := 4) rfl)) (own_allS (Or.inl (List.mem_of_getElem? (i := 5) rfl)) own_all0))))))).trans K5 (own_allS (Or.inl (List.mem_of_getElem? (i := 6) rfl)) (own_allS (Or.inl (List.mem_of_getElem? (i := 7) rfl)) (own_allS (Or.inl (List.mem_of_getElem? (i := 8) rfl)) own_all0))))
  have F10 := (own_F (v := .null) G1_0 K5 (own_nr (sl_16 hw) (own_nr (sl_15 hw) (own_nr (sl_81 hw) own_nin0))))
  have F11 := (own_F (v := .null) G1_1 K5 (own_nr (sl_21 hw) (own_nr (sl_20 hw) (own_nr (sl_82 hw) own_nin0))))
  have F12 := (own_F (v := (.ref a3)) G1_2 K5 (own_nr (sl_12 hw) (own_nr (sl_11 hw) (own_nr (sl_83 hw) own_nin0))))
  have F13 := (own_F (v := .null) G1_3 K5 (own_nr (sl_14 hw) (own_nr (sl_13 hw) (own_nr (sl_84 hw) own_nin0))))
  have F14 := (own_F (v := (.ref a3)) G1_4 K5 (own_nr (sl_85 hw) (own_nr (sl_86 hw) (own_nr (sl_87 hw) own_nin0))))
  have F15 := (own_F (v := .null) G1_5 K5 (own_nr (sl_88 hw) (own_nr (sl_89 hw) (own_nr (sl_90 hw) own_nin0))))
  exact own_ret0 Y5 hx hlk Bd.returns (hb hby d12_22) ⟨rfl, KC9, F10, F11, F12, F13, F14, F15, G5_0, G5_1, G5_2⟩ (by decide) (by decide)
def P17_26 (Z : State) (a1 : Addr) (a2 : Addr) (a3 : Addr) (h0 : Heap) (h : Heap) : Prop := own_Kp h0 h [(a2, Jvm.RoadKit.slotOf Z zs0 "mark" "I")] ∧ Fld Z h a2 zs0 "mark" "I" (.int (2 : Int32))
theorem P17_26_sz {Z : State} {a1 : Addr} {a2 : Addr} {a3 : Addr} {h0 : Heap} : ∀ v h', (own_R none (P17_26 Z a1 a2 a3 h0)) v h' → Array.size h0 ≤ Array.size h' := by
  intro v h' q
  obtain ⟨-, K, -⟩ := q
  exact K.1
set_option maxRecDepth 65536 in
set_option maxHeartbeats 40000000 in
theorem rm17_26 (l : Launch) (Z : State) (a0 : Array Value) (hw : ∀ d ∈ tables_1, d.before a0 Z = true) (ws : List Jvm.Cond) (a1 : Addr) (a2 : Addr) (a3 : Addr) (h0 : Heap) (n0 : Nat) (Z0 : n0 ≤ Array.size h0) (P0 : Exa Z h0 a1 zs9) (P1 : Fld Z h0 a1 zs7 "shapeCount" "I" (.int (0 : Int32))) (P2 : Sta Z h0 zs6 "MARK_BITS" "I" (.int (2 : Int32))) (P3 : Exa Z h0 a3 zs3) (P4 : Fld Z h0 a3 zs5 "ordinal" "I" (.int (1 : Int32))) (P5 : Fld Z h0 a2 zs0 "mark" "I" (.int (2 : Int32))) (P6 : Exa Z h0 a2 zs0) (P7 : n0 ≤ a2) :
    MetFree l (⟨zs6, "mark", zs23⟩ : MethodName) (head1 (Jvm.Cond.code (⟨zs6, "mark", zs23⟩ : MethodName) prog_24_method_10_code 3 none :: ws) ({ frames := 1, cells := 0, slots := 0, locals := 14 } : Room)) (fun a U => a = #[(.ref a1), (.ref a2), (.ref a3)] ∧ Z.Warmed39 U.vm ∧ U.heap = h0) (fun _ _ _ _ _ => True) (fun _ U o U' => ∃ v L, o = .returned v ∧ own_QQ n0 (own_R none (P17_26 Z a1 a2 a3 h0)) v U'.heap L ∧ FrameEnd U o U' L ({ frames := 1, cells := 0, slots := 0, locals := 14 } : Room).cells ({ frames := 1, cells := 0, slots := 0, locals := 14 } : Room).slots) := by
  refine MetFree.of_bodySF (plainFor_of_name pn_com_example_napkintree_napkintree_balancing_MultiwayTree) hisR ?_
  intro p e s m args below meth c s₁ Bd hml0 hP hK
  obtain ⟨rfl, hZ, hh⟩ := hP
  have hx := Bd.exec
  have hby := Bd.bytes
  have hml : c.maxLocals = 3 := hml0
  have hown : s.vm.findClass zs6 = some m.cls := findClass_of_methodNamed Bd.named
  have hnm := (name_of_methodNamed Bd.named Bd.method).1
  have hlk : meth.locks = false := BodyLoose.notSynchronized Bd
  have Y0 : own_S p l e ({ frames := 1, cells := 0, slots := 0, locals := 14 } : Room) s m #[(.ref a1), (.ref a2), (.ref a3)] below meth c n0 s₁ h0 0 0 := ⟨[], Stand.of_body Bd, Fr.nil n0, by rw [← hh, Bd.state]; rfl, Z0⟩
  refine (?_ : own_Fin p e below _ _)
  refine own_st (fun t k => castTop (ef_17_RRR m a1 a2 a3) k) ?_
  refine own_aloadN Y0 hx (pc' := 1) (hb hby d17_0) rfl rfl rfl ?_
  refine own_aloadN Y0 hx (pc' := 2) (hb hby d17_1) rfl rfl rfl ?_
  refine own_virtualUp Y0 hx (pc' := 5) (W := 1) (cl' := 0) (sl' := 0) (as' := []) (S' := [(.ref a2)]) (a := a1) hZ hown (own_w hw 133 rfl) (own_w hw 134 rfl) (own_w hw 135 rfl) (own_w hw 137 rfl) (own_w hw 136 rfl) (own_w hw 24 rfl) (own_w hw 138 rfl) (by decide) P0 (rm18_14 l Z a0 hw [] a1 h0 n0 (own_sz Y0) P1) (hb hby d17_2) rfl (by rw [hml]; rfl) rfl (lenOf pd___I rfl) rfl (by decide) (by decide) rfl rfl (by decide) (by decide) own_Same.sz (own_fixS (S2 := [(.int (0 : Int32)), (.ref a2)]) rfl (fun T1 Y1 => ?_))
  refine own_getS Y1 hx (pc' := 8) (v := (.int (2 : Int32))) hZ hown (host := "") (Or.inl (own_w hw 141 rfl)) Via.refl P2 (hb hby d17_5) rfl (fun T2 Y2 => ?_)
  refine own_ishl Y2 hx (pc' := 9) (hb hby d17_8) rfl (z := (0 : Int32)) (by decide) ?_
  refine own_aloadN Y2 hx (pc' := 10) (hb hby d17_9) rfl rfl rfl ?_
  refine own_virtualUp Y2 hx (pc' := 13) (W := 2) (cl' := 0) (sl' := 0) (as' := []) (S' := [(.int (0 : Int32)), (.ref a2)]) (a := a3) hZ hown (own_w hw 143 rfl) (own_w hw 144 rfl) (own_w hw 145 rfl) (own_w hw 147 rfl) (own_w hw 146 rfl) (own_w hw 148 rfl) (own_w hw 149 rfl) (by decide) P3 (rm19_15 l Z a0 hw [] a3 h0 n0 (own_sz Y2) P4) (hb hby d17_10) rfl (by rw [hml]; rfl) rfl (lenOf pd___I rfl) rfl (by decide) (by decide) rfl rfl (by decide) (by decide) own_Same.sz (own_fixS (S2 := [(.int (1 : Int32)), (.int (0 : Int32)), (.ref a2)]) rfl (fun T3 Y3 => ?_))
  refine own_iconst Y3 hx (pc' := 14) (x := (1 : Int32)) (hb hby d17_13) rfl (by decide) ?_
  refine own_iadd Y3 hx (pc' := 15) (hb hby d17_14) rfl (z := (2 : Int32)) (by decide) ?_
  refine own_ior Y3 hx (pc' := 16) (hb hby d17_15) rfl (z := (2 : Int32)) (by decide) ?_
  refine own_putF Y3 hx (pc' := 19) hZ hown (Or.inr (own_w hw 152 rfl)) Via.refl P5 P6 (Or.inl (own_w hw 153 rfl)) (own_w hw 2 rfl) (ty := .int) (by decide) rfl rfl P7 (hb hby d17_16) rfl (fun T4 h4 Y4 K4 F4 => ?_)
  have KC5 : own_Kp h0 h4 [(a2, Jvm.RoadKit.slotOf Z zs0 "mark" "I")] := ((own_Kp.refl h0 [(a2, Jvm.RoadKit.slotOf Z zs0 "mark" "I")]).trans K4 (own_allS (Or.inl (List.mem_of_getElem? (i := 0) rfl)) own_all0))
  exact own_ret0 Y4 hx hlk Bd.returns (hb hby d17_19) ⟨rfl, KC5, F4⟩ (by decide) (by decide)
def P17_27 (Z : State) (a1 : Addr) (a2 : Addr) (a3 : Addr) (h0 : Heap) (h : Heap) : Prop := own_Kp h0 h [(a2, Jvm.RoadKit.slotOf Z zs0 "mark" "I")] ∧ Fld Z h a2 zs0 "mark" "I" (.int (1 : Int32))
theorem P17_27_sz {Z : State} {a1 : Addr} {a2 : Addr} {a3 : Addr} {h0 : Heap} : ∀ v h', (own_R none (P17_27 Z a1 a2 a3 h0)) v h' → Array.size h0 ≤ Array.size h' := by
  intro v h' q
  obtain ⟨-, K, -⟩ := q
  exact K.1
set_option maxRecDepth 65536 in
set_option maxHeartbeats 40000000 in
theorem rm17_27 (l : Launch) (Z : State) (a0 : Array Value) (hw : ∀ d ∈ tables_1, d.before a0 Z = true) (ws : List Jvm.Cond) (a1 : Addr) (a2 : Addr) (a3 : Addr) (h0 : Heap) (n0 : Nat) (Z0 : n0 ≤ Array.size h0) (P0 : Exa Z h0 a1 zs9) (P1 : Fld Z h0 a1 zs7 "shapeCount" "I" (.int (0 : Int32))) (P2 : Sta Z h0 zs6 "MARK_BITS" "I" (.int (2 : Int32))) (P3 : Exa Z h0 a3 zs3) (P4 : Fld Z h0 a3 zs5 "ordinal" "I" (.int (0 : Int32))) (P5 : Fld Z h0 a2 zs0 "mark" "I" (.int (3 : Int32))) (P6 : Exa Z h0 a2 zs0) (P7 : n0 ≤ a2) :
    MetFree l (⟨zs6, "mark", zs23⟩ : MethodName) (head1 (Jvm.Cond.code (⟨zs6, "mark", zs23⟩ : MethodName) prog_24_method_10_code 3 none :: ws) ({ frames := 1, cells := 0, slots := 0, locals := 14 } : Room)) (fun a U => a = #[(.ref a1), (.ref a2), (.ref a3)] ∧ Z.Warmed39 U.vm ∧ U.heap = h0) (fun _ _ _ _ _ => True) (fun _ U o U' => ∃ v L, o = .returned v ∧ own_QQ n0 (own_R none (P17_27 Z a1 a2 a3 h0)) v U'.heap L ∧ FrameEnd U o U' L ({ frames := 1, cells := 0, slots := 0, locals := 14 } : Room).cells ({ frames := 1, cells := 0, slots := 0, locals := 14 } : Room).slots) := by
  refine MetFree.of_bodySF (plainFor_of_name pn_com_example_napkintree_napkintree_balancing_MultiwayTree) hisR ?_
  intro p e s m args below meth c s₁ Bd hml0 hP hK
  obtain ⟨rfl, hZ, hh⟩ := hP
  have hx := Bd.exec
  have hby := Bd.bytes
  have hml : c.maxLocals = 3 := hml0
  have hown : s.vm.findClass zs6 = some m.cls := findClass_of_methodNamed Bd.named
  have hnm := (name_of_methodNamed Bd.named Bd.method).1
  have hlk : meth.locks = false := BodyLoose.notSynchronized Bd
  have Y0 : own_S p l e ({ frames := 1, cells := 0, slots := 0, locals := 14 } : Room) s m #[(.ref a1), (.ref a2), (.ref a3)] below meth c n0 s₁ h0 0 0 := ⟨[], Stand.of_body Bd, Fr.nil n0, by rw [← hh, Bd.state]; rfl, Z0⟩
  refine (?_ : own_Fin p e below _ _)
  refine own_st (fun t k => castTop (ef_17_RRR m a1 a2 a3) k) ?_
  refine own_aloadN Y0 hx (pc' := 1) (hb hby d17_0) rfl rfl rfl ?_
  refine own_aloadN Y0 hx (pc' := 2) (hb hby d17_1) rfl rfl rfl ?_
  refine own_virtualUp Y0 hx (pc' := 5) (W := 1) (cl' := 0) (sl' := 0) (as' := []) (S' := [(.ref a2)]) (a := a1) hZ hown (own_w hw 133 rfl) (own_w hw 134 rfl) (own_w hw 135 rfl) (own_w hw 137 rfl) (own_w hw 136 rfl) (own_w hw 24 rfl) (own_w hw 138 rfl) (by decide) P0 (rm18_14 l Z a0 hw [] a1 h0 n0 (own_sz Y0) P1) (hb hby d17_2) rfl (by rw [hml]; rfl) rfl (lenOf pd___I rfl) rfl (by decide) (by decide) rfl rfl (by decide) (by decide) own_Same.sz (own_fixS (S2 := [(.int (0 : Int32)), (.ref a2)]) rfl (fun T1 Y1 => ?_))
  refine own_getS Y1 hx (pc' := 8) (v := (.int (2 : Int32))) hZ hown (host := "") (Or.inl (own_w hw 141 rfl)) Via.refl P2 (hb hby d17_5) rfl (fun T2 Y2 => ?_)
  refine own_ishl Y2 hx (pc' := 9) (hb hby d17_8) rfl (z := (0 : Int32)) (by decide) ?_
  refine own_aloadN Y2 hx (pc' := 10) (hb hby d17_9) rfl rfl rfl ?_
  refine own_virtualUp Y2 hx (pc' := 13) (W := 2) (cl' := 0) (sl' := 0) (as' := []) (S' := [(.int (0 : Int32)), (.ref a2)]) (a := a3) hZ hown (own_w hw 143 rfl) (own_w hw 144 rfl) (own_w hw 145 rfl) (own_w hw 147 rfl) (own_w hw 146 rfl) (own_w hw 148 rfl) (own_w hw 149 rfl) (by decide) P3 (rm19_17 l Z a0 hw [] a3 h0 n0 (own_sz Y2) P4) (hb hby d17_10) rfl (by rw [hml]; rfl) rfl (lenOf pd___I rfl) rfl (by decide) (by decide) rfl rfl (by decide) (by decide) own_Same.sz (own_fixS (S2 := [(.int (0 : Int32)), (.int (0 : Int32)), (.ref a2)]) rfl (fun T3 Y3 => ?_))
  refine own_iconst Y3 hx (pc' := 14) (x := (1 : Int32)) (hb hby d17_13) rfl (by decide) ?_
  refine own_iadd Y3 hx (pc' := 15) (hb hby d17_14) rfl (z := (1 : Int32)) (by decide) ?_
  refine own_ior Y3 hx (pc' := 16) (hb hby d17_15) rfl (z := (1 : Int32)) (by decide) ?_
  refine own_putF Y3 hx (pc' := 19) hZ hown (Or.inr (own_w hw 152 rfl)) Via.refl P5 P6 (Or.inl (own_w hw 153 rfl)) (own_w hw 2 rfl) (ty := .int) (by decide) rfl rfl P7 (hb hby d17_16) rfl (fun T4 h4 Y4 K4 F4 => ?_)
  have KC5 : own_Kp h0 h4 [(a2, Jvm.RoadKit.slotOf Z zs0 "mark" "I")] := ((own_Kp.refl h0 [(a2, Jvm.RoadKit.slotOf Z zs0 "mark" "I")]).trans K4 (own_allS (Or.inl (List.mem_of_getElem? (i := 0) rfl)) own_all0))
  exact own_ret0 Y4 hx hlk Bd.returns (hb hby d17_19) ⟨rfl, KC5, F4⟩ (by decide) (by decide)
def P7_28 (Z : State) (a1 : Addr) (a2 : Addr) (a3 : Addr) (a4 : Addr) (a5 : Addr) (a6 : Addr) (a7 : Addr) (h0 : Heap) (h : Heap) : Prop := ∃ b2 : Addr, own_Kp h0 h [(a3, Jvm.RoadKit.slotOf Z zs0 "child2" zs16), (a3, Jvm.RoadKit.slotOf Z zs0 "child3" zs16), (a3, Jvm.RoadKit.slotOf Z zs0 "key1" zs1), (a3, Jvm.RoadKit.slotOf Z zs0 "key2" zs1), (a3, Jvm.RoadKit.slotOf Z zs0 "value1" zs1), (a3, Jvm.RoadKit.slotOf Z zs0 "value2" zs1), (a2, Jvm.RoadKit.slotOf Z zs0 "key2" zs1), (a2, Jvm.RoadKit.slotOf Z zs0 "value2" zs1), (a2, Jvm.RoadKit.slotOf Z zs0 "key1" zs1), (a2, Jvm.RoadKit.slotOf Z zs0 "value1" zs1), (a2, Jvm.RoadKit.slotOf Z zs0 "key0" zs1), (a2, Jvm.RoadKit.slotOf Z zs0 "value0" zs1), (a2, Jvm.RoadKit.slotOf Z zs0 "child3" zs16), (a2, Jvm.RoadKit.slotOf Z zs0 "child2" zs16), (a2, Jvm.RoadKit.slotOf Z zs0 "child1" zs16), (a3, Jvm.RoadKit.slotOf Z zs0 "mark" "I"), (a2, Jvm.RoadKit.slotOf Z zs0 "mark" "I")] ∧ Array.size h0 ≤ b2 ∧ Fld Z h a3 zs0 "child2" zs16 .null ∧ Fld Z h a3 zs0 "child3" zs16 .null ∧ Fld Z h a3 zs0 "key1" zs1 .null ∧ Fld Z h a3 zs0 "key2" zs1 .null ∧ Fld Z h a3 zs0 "value1" zs1 .null ∧ Fld Z h a3 zs0 "value2" zs1 .null ∧ Fld Z h a2 zs0 "key2" zs1 .null ∧ Fld Z h a2 zs0 "value2" zs1 .null ∧ Fld Z h a2 zs0 "key1" zs1 (.ref a4) ∧ Fld Z h a2 zs0 "value1" zs1 .null ∧ Fld Z h a2 zs0 "key0" zs1 (.ref a4) ∧ Fld Z h a2 zs0 "value0" zs1 .null ∧ Fld Z h a2 zs0 "child3" zs16 .null ∧ Fld Z h a2 zs0 "child2" zs16 (.ref a5) ∧ Fld Z h a2 zs0 "child1" zs16 (.ref b2) ∧ Fld Z h a3 zs0 "mark" "I" (.int (2 : Int32)) ∧ Fld Z h a2 zs0 "mark" "I" (.int (1 : Int32)) ∧ Exa Z h b2 zs0 ∧ Fld Z h b2 zs0 "child0" zs16 .null ∧ Fld Z h b2 zs0 "key2" zs1 .null ∧ Fld Z h b2 zs0 "key0" zs1 .null ∧ Fld Z h b2 zs0 "value2" zs1 .null ∧ Fld Z h b2 zs0 "value0" zs1 .null ∧ Fld Z h b2 zs0 "child2" zs16 .null ∧ Fld Z h b2 zs0 "child3" zs16 .null ∧ Fld Z h b2 zs0 "child1" zs16 .null ∧ Fld Z h b2 zs0 "key1" zs1 .null ∧ Fld Z h b2 zs0 "value1" zs1 .null ∧ Fld Z h b2 zs0 "mark" "I" (.int (2 : Int32))
theorem P7_28_sz {Z : State} {a1 : Addr} {a2 : Addr} {a3 : Addr} {a4 : Addr} {a5 : Addr} {a6 : Addr} {a7 : Addr} {h0 : Heap} : ∀ v h', (own_R none (P7_28 Z a1 a2 a3 a4 a5 a6 a7 h0)) v h' → Array.size h0 ≤ Array.size h' := by
  intro v h' q
  obtain ⟨-, _, K, -⟩ := q
  exact K.1
set_option maxRecDepth 65536 in
set_option maxHeartbeats 40000000 in
theorem rm7_28 (l : Launch) (Z : State) (a0 : Array Value) (hw : ∀ d ∈ tables_1, d.before a0 Z = true) (ws : List Jvm.Cond) (a1 : Addr) (a2 : Addr) (a3 : Addr) (a4 : Addr) (a5 : Addr) (a6 : Addr) (a7 : Addr) (h0 : Heap) (n0 : Nat) (Z0 : n0 ≤ Array.size h0) (P0 : Exa Z h0 a2 zs0) (P1 : Fld Z h0 a2 zs0 "child0" zs16 (.ref a3)) (P2 : Fld Z h0 a3 zs0 "key2" zs1 .null) (P3 : Fld Z h0 a3 zs0 "value2" zs1 .null) (P4 : Exa Z h0 a3 zs0) (P5 : Fld Z h0 a3 zs0 "child2" zs16 .null) (P6 : Fld Z h0 a3 zs0 "child3" zs16 .null) (P7 : n0 ≤ a3) (P8 : Fld Z h0 a3 zs0 "key1" zs1 .null) (P9 : Sta Z h0 zs0 "NULL_KEY" zs1 (.ref a4)) (P10 : Fld Z h0 a3 zs0 "value1" zs1 .null) (P11 : Fld Z h0 a2 zs0 "key1" zs1 .null) (P12 : a2 ≠ a3) (P13 : Fld Z h0 a2 zs0 "key2" zs1 .null) (P14 : n0 ≤ a2) (P15 : Fld Z h0 a2 zs0 "value1" zs1 .null) (P16 : Fld Z h0 a2 zs0 "value2" zs1 .null) (P17 : Fld Z h0 a2 zs0 "key0" zs1 (.ref a4)) (P18 : Fld Z h0 a2 zs0 "value0" zs1 .null) (P19 : Fld Z h0 a2 zs0 "child2" zs16 .null) (P20 : Fld Z h0 a2 zs0 "child3" zs16 .null) (P21 : Fld Z h0 a2 zs0 "child1" zs16 (.ref a5)) (P22 : Sta Z h0 zs3 "SPLIT" zs4 (.ref a6)) (P23 : Exa Z h0 a1 zs9) (P24 : Fld Z h0 a1 zs7 "shapeCount" "I" (.int (0 : Int32))) (P25 : Sta Z h0 zs6 "MARK_BITS" "I" (.int (2 : Int32))) (P26 : Exa Z h0 a6 zs3) (P27 : Fld Z h0 a6 zs5 "ordinal" "I" (.int (1 : Int32))) (P28 : Fld Z h0 a3 zs0 "mark" "I" (.int (2 : Int32))) (P29 : Sta Z h0 zs3 "ABSORBED" zs4 (.ref a7)) (P30 : Exa Z h0 a7 zs3) (P31 : Fld Z h0 a7 zs5 "ordinal" "I" (.int (0 : Int32))) (P32 : Fld Z h0 a2 zs0 "mark" "I" (.int (3 : Int32))) :
    MetFree l (⟨zs6, "splitChild", zs24⟩ : MethodName) (head1 (Jvm.Cond.code (⟨zs6, "splitChild", zs24⟩ : MethodName) prog_24_method_6_code 7 none :: ws) ({ frames := 3, cells := 1, slots := 11, locals := 45 } : Room)) (fun a U => a = #[(.ref a1), (.ref a2), (.int (0 : Int32))] ∧ Z.Warmed39 U.vm ∧ U.heap = h0) (fun _ _ _ _ _ => True) (fun _ U o U' => ∃ v L, o = .returned v ∧ own_QQ n0 (own_R none (P7_28 Z a1 a2 a3 a4 a5 a6 a7 h0)) v U'.heap L ∧ FrameEnd U o U' L ({ frames := 3, cells := 1, slots := 11, locals := 45 } : Room).cells ({ frames := 3, cells := 1, slots := 11, locals := 45 } : Room).slots) := by
  refine MetFree.of_bodySF (plainFor_of_name pn_com_example_napkintree_napkintree_balancing_MultiwayTree) hisR ?_
  intro p e s m args below meth c s₁ Bd hml0 hP hK
  obtain ⟨rfl, hZ, hh⟩ := hP
  have hx := Bd.exec
  have hby := Bd.bytes
  have hml : c.maxLocals = 7 := hml0
  have hown : s.vm.findClass zs6 = some m.cls := findClass_of_methodNamed Bd.named
  have hnm := (name_of_methodNamed Bd.named Bd.method).1
  have hlk : meth.locks = false := BodyLoose.notSynchronized Bd
  have Y0 : own_S p l e ({ frames := 3, cells := 1, slots := 11, locals := 45 } : Room) s m #[(.ref a1), (.ref a2), (.int (0 : Int32))] below meth c n0 s₁ h0 0 0 := ⟨[], Stand.of_body Bd, Fr.nil n0, by rw [← hh, Bd.state]; rfl, Z0⟩
  refine (?_ : own_Fin p e below _ _)
  refine own_st (fun t k => castTop (ef_7_RRI m a1 a2 (0 : Int32)) k) ?_
  refine own_aloadN Y0 hx (pc' := 1) (hb hby d7_0) rfl rfl rfl ?_
  refine own_iloadN Y0 hx (pc' := 2) (hb hby d7_1) rfl rfl ?_
  refine own_virtual Y0 hx (pc' := 5) (W := 0) (cl' := 0) (sl' := 0) (as' := [(.int (0 : Int32))]) (S' := []) (a := a2) hZ hown (own_w hw 56 rfl) (own_w hw 57 rfl) (notFace_of_selects (args := #[]) (mvT hZ (own_w hw 59 rfl))) (own_w hw 59 rfl) (own_w hw 58 rfl) (own_w hw 3 rfl) (own_w hw 60 rfl) (by decide) P0 (rm8_5 l Z a0 hw [] a2 a3 h0 n0 (own_sz Y0) P1) (hb hby d7_2) rfl (by rw [hml]; rfl) rfl (lenOf pd__I_Lcom_example_napkintree_napkintree_balancing_MultiwayTree_Node_ rfl) rfl (by decide) (by decide) rfl rfl (by decide) (by decide) own_Same.sz (own_fixS (S2 := [(.ref a3)]) rfl (fun T1 Y1 => ?_))
  refine own_astoreN Y1 hx (pc' := 6) (Ls' := #[.val (.ref a1), .val (.ref a2), .val (.int (0 : Int32)), .val (.ref a3), .unset, .unset, .unset]) (hb hby d7_5) rfl rfl rfl ?_
  refine own_new Y1 hx (pc' := 9) (cl' := 1) (sl' := 11) hZ hown (own_w hw 44 rfl) (own_w hw 2 rfl) (own_w hw 3 rfl) (hb hby d7_6) rfl rfl rfl (by decide) (by decide) (fun T2 h2 b2 Y2 K2 le2 E2 D2 => ?_)
  refine own_dup Y2 hx (pc' := 10) (hb hby d7_9) rfl rfl ?_
  refine own_special Y2 hx (pc' := 13) (W := 1) (cl' := 1) (sl' := 11) (as' := []) (S' := [(.ref b2)]) (a := b2) rfl hZ hown (own_w hw 45 rfl) (own_w hw 5 rfl) (own_w hw 3 rfl) (own_w hw 6 rfl) (by decide) (rm1_1 l Z a0 hw [] b2 h2 n0 (own_sz Y2)) (hb hby d7_10) rfl (by rw [hml]; rfl) rfl (lenOf pd___V rfl) rfl (by decide) (by decide) rfl rfl (by decide) (by decide) own_Same.sz (own_fixS (S2 := [(.ref b2)]) rfl (fun T3 Y3 => ?_))
  refine own_astore Y3 hx (pc' := 15) (Ls' := #[.val (.ref a1), .val (.ref a2), .val (.int (0 : Int32)), .val (.ref a3), .val (.ref b2), .unset, .unset]) (hb hby d7_13) rfl rfl rfl ?_
  refine own_aload Y3 hx (pc' := 17) (hb hby d7_15) rfl rfl rfl ?_
  refine own_aloadN Y3 hx (pc' := 18) (hb hby d7_17) rfl rfl rfl ?_
  have F4 := (own_F (v := .null) P2 K2 own_nin0)
  refine own_getF Y3 hx (pc' := 21) (v := .null) hZ hown (Or.inr (own_w hw 62 rfl)) Via.refl F4 (hb hby d7_18) rfl (fun T5 Y5 => ?_)
  refine own_putF Y5 hx (pc' := 24) hZ hown (Or.inr (own_w hw 64 rfl)) Via.refl (D2 (Or.inl (own_w hw 65 rfl)) (ty := (.object zs2)) (by decide)) E2 (Or.inl (own_w hw 65 rfl)) (own_w hw 2 rfl) (ty := (.object zs2)) (by decide) rfl rfl (Nat.le_trans Z0 le2) (hb hby d7_21) rfl (fun T6 h6 Y6 K6 F6 => ?_)
  refine own_aload Y6 hx (pc' := 26) (hb hby d7_24) rfl rfl rfl ?_
  refine own_aloadN Y6 hx (pc' := 27) (hb hby d7_26) rfl rfl rfl ?_
  have D7 : a3 ≠ b2 := (Nat.ne_of_lt (Nat.lt_of_lt_of_le P4.lt le2))
  have F8 := (own_F (v := .null) (own_F (v := .null) P3 K2 own_nin0) K6 (own_nl D7 own_nin0))
  refine own_getF Y6 hx (pc' := 30) (v := .null) hZ hown (Or.inr (own_w hw 66 rfl)) Via.refl F8 (hb hby d7_27) rfl (fun T9 Y9 => ?_)
  have F10 := (own_F (v := .null) (D2 (Or.inl (own_w hw 69 rfl)) (ty := (.object zs2)) (by decide)) K6 (own_nr (sl_4 hw) own_nin0))
  have F11 := (own_E E2 K6)
  refine own_putF Y9 hx (pc' := 33) hZ hown (Or.inr (own_w hw 68 rfl)) Via.refl F10 F11 (Or.inl (own_w hw 69 rfl)) (own_w hw 2 rfl) (ty := (.object zs2)) (by decide) rfl rfl (Nat.le_trans Z0 le2) (hb hby d7_30) rfl (fun T12 h12 Y12 K12 F12 => ?_)
  refine own_aload Y12 hx (pc' := 35) (hb hby d7_33) rfl rfl rfl ?_
  refine own_aloadN Y12 hx (pc' := 36) (hb hby d7_35) rfl rfl rfl ?_
  have F13 := (own_F (v := .null) (own_F (v := .null) (own_F (v := .null) P5 K2 own_nin0) K6 (own_nl D7 own_nin0)) K12 (own_nl D7 own_nin0))
  refine own_getF Y12 hx (pc' := 39) (v := .null) hZ hown (Or.inr (own_w hw 70 rfl)) Via.refl F13 (hb hby d7_36) rfl (fun T14 Y14 => ?_)
  have F15 := (own_F (v := .null) (own_F (v := .null) (D2 (Or.inl (own_w hw 50 rfl)) (ty := (.object zs0)) (by decide)) K6 (own_nr (sl_5 hw) own_nin0)) K12 (own_nr (sl_6 hw) own_nin0))
  have F16 := (own_E F11 K12)
  refine own_putF Y14 hx (pc' := 42) hZ hown (Or.inr (own_w hw 49 rfl)) Via.refl F15 F16 (Or.inl (own_w hw 50 rfl)) (own_w hw 2 rfl) (ty := (.object zs0)) (by decide) rfl rfl (Nat.le_trans Z0 le2) (hb hby d7_39) rfl (fun T17 h17 Y17 K17 F17 => ?_)
  refine own_aload Y17 hx (pc' := 44) (hb hby d7_42) rfl rfl rfl ?_
  refine own_aloadN Y17 hx (pc' := 45) (hb hby d7_44) rfl rfl rfl ?_
  have F18 := (own_F (v := .null) (own_F (v := .null) (own_F (v := .null) (own_F (v := .null) P6 K2 own_nin0) K6 (own_nl D7 own_nin0)) K12 (own_nl D7 own_nin0)) K17 (own_nl D7 own_nin0))
  refine own_getF Y17 hx (pc' := 48) (v := .null) hZ hown (Or.inr (own_w hw 72 rfl)) Via.refl F18 (hb hby d7_45) rfl (fun T19 Y19 => ?_)
  have F20 := (own_F (v := .null) (own_F (v := .null) (own_F (v := .null) (D2 (Or.inl (own_w hw 75 rfl)) (ty := (.object zs0)) (by decide)) K6 (own_nr (sl_7 hw) own_nin0)) K12 (own_nr (sl_8 hw) own_nin0)) K17 (own_nr (sl_9 hw) own_nin0))
  have F21 := (own_E F16 K17)
  refine own_putF Y19 hx (pc' := 51) hZ hown (Or.inr (own_w hw 74 rfl)) Via.refl F20 F21 (Or.inl (own_w hw 75 rfl)) (own_w hw 2 rfl) (ty := (.object zs0)) (by decide) rfl rfl (Nat.le_trans Z0 le2) (hb hby d7_48) rfl (fun T22 h22 Y22 K22 F22 => ?_)
  refine own_aloadN Y22 hx (pc' := 52) (hb hby d7_51) rfl rfl rfl ?_
  refine own_aconstNull Y22 hx (pc' := 53) (hb hby d7_52) rfl ?_
  have F23 := (own_F (v := .null) (own_F (v := .null) F13 K17 (own_nl D7 own_nin0)) K22 (own_nl D7 own_nin0))
  have F24 := (own_E (own_E (own_E (own_E (own_E P4 K2) K6) K12) K17) K22)
  refine own_putF Y22 hx (pc' := 56) hZ hown (Or.inr (own_w hw 70 rfl)) Via.refl F23 F24 (Or.inl (own_w hw 71 rfl)) (own_w hw 2 rfl) (ty := (.object zs0)) (by decide) rfl rfl P7 (hb hby d7_53) rfl (fun T25 h25 Y25 K25 F25 => ?_)
  refine own_aloadN Y25 hx (pc' := 57) (hb hby d7_56) rfl rfl rfl ?_
  refine own_aconstNull Y25 hx (pc' := 58) (hb hby d7_57) rfl ?_
  have F26 := (own_F (v := .null) (own_F (v := .null) F18 K22 (own_nl D7 own_nin0)) K25 (own_nr (sl_10 hw) own_nin0))
  have F27 := (own_E F24 K25)
  refine own_putF Y25 hx (pc' := 61) hZ hown (Or.inr (own_w hw 72 rfl)) Via.refl F26 F27 (Or.inl (own_w hw 73 rfl)) (own_w hw 2 rfl) (ty := (.object zs0)) (by decide) rfl rfl P7 (hb hby d7_58) rfl (fun T28 h28 Y28 K28 F28 => ?_)
  refine own_aloadN Y28 hx (pc' := 62) (hb hby d7_61) rfl rfl rfl ?_
  refine own_iconst Y28 hx (pc' := 63) (x := (1 : Int32)) (hb hby d7_62) rfl (by decide) ?_
  have F30 := (own_E F27 K28)
  have F31 := (own_F (v := .null) (own_F (v := .null) (own_F (v := .null) (own_F (v := .null) (own_F (v := .null) (own_F (v := .null) (own_F (v := .null) P8 K2 own_nin0) K6 (own_nl D7 own_nin0)) K12 (own_nl D7 own_nin0)) K17 (own_nl D7 own_nin0)) K22 (own_nl D7 own_nin0)) K25 (own_nr (sl_11 hw) own_nin0)) K28 (own_nr (sl_12 hw) own_nin0))
  have F32 := (own_St (own_St (own_St (own_St (own_St (own_St (own_St P9 K2 own_all0) K6 (own_allS (own_plain E2) own_all0)) K12 (own_allS (own_plain F11) own_all0)) K17 (own_allS (own_plain F16) own_all0)) K22 (own_allS (own_plain F21) own_all0)) K25 (own_allS (own_plain F24) own_all0)) K28 (own_allS (own_plain F27) own_all0))
  refine own_virtual Y28 hx (pc' := 66) (W := 0) (cl' := 1) (sl' := 11) (as' := [(.int (1 : Int32))]) (S' := []) (a := a3) hZ hown (own_w hw 76 rfl) (own_w hw 77 rfl) (notFace_of_selects (args := #[]) (mvT hZ (own_w hw 79 rfl))) (own_w hw 79 rfl) (own_w hw 78 rfl) (own_w hw 3 rfl) (own_w hw 80 rfl) (by decide) F30 (rm9_7 l Z a0 hw [] a3 a4 h28 n0 (own_sz Y28) F31 F32) (hb hby d7_63) rfl (by rw [hml]; rfl) rfl (lenOf pd__I_Ljava_lang_Object_ rfl) rfl (by decide) (by decide) rfl rfl (by decide) (by decide) own_Same.sz (own_fixS (S2 := [.null]) rfl (fun T29 Y29 => ?_))
  refine own_astore Y29 hx (pc' := 68) (Ls' := #[.val (.ref a1), .val (.ref a2), .val (.int (0 : Int32)), .val (.ref a3), .val (.ref b2), .val .null, .unset]) (hb hby d7_66) rfl rfl rfl ?_
  refine own_aloadN Y29 hx (pc' := 69) (hb hby d7_68) rfl rfl rfl ?_
  refine own_iconst Y29 hx (pc' := 70) (x := (1 : Int32)) (hb hby d7_69) rfl (by decide) ?_
  have F34 := (own_F (v := .null) (own_F (v := .null) (own_F (v := .null) (own_F (v := .null) (own_F (v := .null) (own_F (v := .null) (own_F (v := .null) P10 K2 own_nin0) K6 (own_nl D7 own_nin0)) K12 (own_nl D7 own_nin0)) K17 (own_nl D7 own_nin0)) K22 (own_nl D7 own_nin0)) K25 (own_nr (sl_13 hw) own_nin0)) K28 (own_nr (sl_14 hw) own_nin0))
  refine own_virtual Y29 hx (pc' := 73) (W := 0) (cl' := 1) (sl' := 11) (as' := [(.int (1 : Int32))]) (S' := []) (a := a3) hZ hown (own_w hw 88 rfl) (own_w hw 89 rfl) (notFace_of_selects (args := #[]) (mvT hZ (own_w hw 91 rfl))) (own_w hw 91 rfl) (own_w hw 90 rfl) (own_w hw 3 rfl) (own_w hw 92 rfl) (by decide) F30 (rm11_8 l Z a0 hw [] a3 h28 n0 (own_sz Y29) F34) (hb hby d7_70) rfl (by rw [hml]; rfl) rfl (lenOf pd__I_Ljava_lang_Object_ rfl) rfl (by decide) (by decide) rfl rfl (by decide) (by decide) own_Same.sz (own_fixS (S2 := [.null]) rfl (fun T33 Y33 => ?_))
  refine own_astore Y33 hx (pc' := 75) (Ls' := #[.val (.ref a1), .val (.ref a2), .val (.int (0 : Int32)), .val (.ref a3), .val (.ref b2), .val .null, .val .null]) (hb hby d7_73) rfl rfl rfl ?_
  refine own_aloadN Y33 hx (pc' := 76) (hb hby d7_75) rfl rfl rfl ?_
  refine own_aconstNull Y33 hx (pc' := 77) (hb hby d7_76) rfl ?_
  refine own_putF Y33 hx (pc' := 80) hZ hown (Or.inr (own_w hw 95 rfl)) Via.refl F31 F30 (Or.inl (own_w hw 82 rfl)) (own_w hw 2 rfl) (ty := (.object zs2)) (by decide) rfl rfl P7 (hb hby d7_77) rfl (fun T35 h35 Y35 K35 F35 => ?_)
  refine own_aloadN Y35 hx (pc' := 81) (hb hby d7_80) rfl rfl rfl ?_
  refine own_aconstNull Y35 hx (pc' := 82) (hb hby d7_81) rfl ?_
  have F36 := (own_F (v := .null) (own_F (v := .null) (own_F (v := .null) (own_F (v := .null) (own_F (v := .null) (own_F (v := .null) (own_F (v := .null) F4 K6 (own_nl D7 own_nin0)) K12 (own_nl D7 own_nin0)) K17 (own_nl D7 own_nin0)) K22 (own_nl D7 own_nin0)) K25 (own_nr (sl_15 hw) own_nin0)) K28 (own_nr (sl_16 hw) own_nin0)) K35 (own_nr (sl_17 hw) own_nin0))
  have F37 := (own_E F30 K35)
  refine own_putF Y35 hx (pc' := 85) hZ hown (Or.inr (own_w hw 62 rfl)) Via.refl F36 F37 (Or.inl (own_w hw 63 rfl)) (own_w hw 2 rfl) (ty := (.object zs2)) (by decide) rfl rfl P7 (hb hby d7_82) rfl (fun T38 h38 Y38 K38 F38 => ?_)
  refine own_aloadN Y38 hx (pc' := 86) (hb hby d7_85) rfl rfl rfl ?_
  refine own_aconstNull Y38 hx (pc' := 87) (hb hby d7_86) rfl ?_
  have F39 := (own_F (v := .null) (own_F (v := .null) F34 K35 (own_nr (sl_18 hw) own_nin0)) K38 (own_nr (sl_19 hw) own_nin0))
  have F40 := (own_E F37 K38)
  refine own_putF Y38 hx (pc' := 90) hZ hown (Or.inr (own_w hw 96 rfl)) Via.refl F39 F40 (Or.inl (own_w hw 94 rfl)) (own_w hw 2 rfl) (ty := (.object zs2)) (by decide) rfl rfl P7 (hb hby d7_87) rfl (fun T41 h41 Y41 K41 F41 => ?_)
  refine own_aloadN Y41 hx (pc' := 91) (hb hby d7_90) rfl rfl rfl ?_
  refine own_aconstNull Y41 hx (pc' := 92) (hb hby d7_91) rfl ?_
  have F42 := (own_F (v := .null) (own_F (v := .null) (own_F (v := .null) (own_F (v := .null) (own_F (v := .null) (own_F (v := .null) (own_F (v := .null) (own_F (v := .null) F8 K12 (own_nl D7 own_nin0)) K17 (own_nl D7 own_nin0)) K22 (own_nl D7 own_nin0)) K25 (own_nr (sl_20 hw) own_nin0)) K28 (own_nr (sl_21 hw) own_nin0)) K35 (own_nr (sl_22 hw) own_nin0)) K38 (own_nr (sl_23 hw) own_nin0)) K41 (own_nr (sl_24 hw) own_nin0))
  have F43 := (own_E F40 K41)
  refine own_putF Y41 hx (pc' := 95) hZ hown (Or.inr (own_w hw 66 rfl)) Via.refl F42 F43 (Or.inl (own_w hw 67 rfl)) (own_w hw 2 rfl) (ty := (.object zs2)) (by decide) rfl rfl P7 (hb hby d7_92) rfl (fun T44 h44 Y44 K44 F44 => ?_)
  refine own_aloadN Y44 hx (pc' := 96) (hb hby d7_95) rfl rfl rfl ?_
  refine own_iloadN Y44 hx (pc' := 97) (hb hby d7_96) rfl rfl ?_
  refine own_aload Y44 hx (pc' := 99) (hb hby d7_97) rfl rfl rfl ?_
  refine own_aload Y44 hx (pc' := 101) (hb hby d7_99) rfl rfl rfl ?_
  refine own_iloadN Y44 hx (pc' := 102) (hb hby d7_101) rfl rfl ?_
  refine own_iconst Y44 hx (pc' := 103) (x := (1 : Int32)) (hb hby d7_102) rfl (by decide) ?_
  refine own_iadd Y44 hx (pc' := 104) (hb hby d7_103) rfl (z := (1 : Int32)) (by decide) ?_
  refine own_aload Y44 hx (pc' := 106) (hb hby d7_104) rfl rfl rfl ?_
  have F46 := (own_E (own_E (own_E (own_E (own_E (own_E (own_E (own_E (own_E (own_E (own_E P0 K2) K6) K12) K17) K22) K25) K28) K35) K38) K41) K44)
  have F47 := (own_St (own_St (own_St (own_St F32 K35 (own_allS (own_plain F30) own_all0)) K38 (own_allS (own_plain F37) own_all0)) K41 (own_allS (own_plain F40) own_all0)) K44 (own_allS (own_plain F43) own_all0))
  have D48 : a2 ≠ b2 := (Nat.ne_of_lt (Nat.lt_of_lt_of_le P0.lt le2))
  have F49 := (own_F (v := .null) (own_F (v := .null) (own_F (v := .null) (own_F (v := .null) (own_F (v := .null) (own_F (v := .null) (own_F (v := .null) (own_F (v := .null) (own_F (v := .null) (own_F (v := .null) (own_F (v := .null) P11 K2 own_nin0) K6 (own_nl D48 own_nin0)) K12 (own_nl D48 own_nin0)) K17 (own_nl D48 own_nin0)) K22 (own_nl D48 own_nin0)) K25 (own_nl P12 own_nin0)) K28 (own_nl P12 own_nin0)) K35 (own_nl P12 own_nin0)) K38 (own_nl P12 own_nin0)) K41 (own_nl P12 own_nin0)) K44 (own_nl P12 own_nin0))
  have F50 := (own_F (v := .null) (own_F (v := .null) (own_F (v := .null) (own_F (v := .null) (own_F (v := .null) (own_F (v := .null) (own_F (v := .null) (own_F (v := .null) (own_F (v := .null) (own_F (v := .null) (own_F (v := .null) P13 K2 own_nin0) K6 (own_nl D48 own_nin0)) K12 (own_nl D48 own_nin0)) K17 (own_nl D48 own_nin0)) K22 (own_nl D48 own_nin0)) K25 (own_nl P12 own_nin0)) K28 (own_nl P12 own_nin0)) K35 (own_nl P12 own_nin0)) K38 (own_nl P12 own_nin0)) K41 (own_nl P12 own_nin0)) K44 (own_nl P12 own_nin0))
  have F51 := (own_F (v := .null) (own_F (v := .null) (own_F (v := .null) (own_F (v := .null) (own_F (v := .null) (own_F (v := .null) (own_F (v := .null) (own_F (v := .null) (own_F (v := .null) (own_F (v := .null) (own_F (v := .null) P15 K2 own_nin0) K6 (own_nl D48 own_nin0)) K12 (own_nl D48 own_nin0)) K17 (own_nl D48 own_nin0)) K22 (own_nl D48 own_nin0)) K25 (own_nl P12 own_nin0)) K28 (own_nl P12 own_nin0)) K35 (own_nl P12 own_nin0)) K38 (own_nl P12 own_nin0)) K41 (own_nl P12 own_nin0)) K44 (own_nl P12 own_nin0))
  have F52 := (own_F (v := .null) (own_F (v := .null) (own_F (v := .null) (own_F (v := .null) (own_F (v := .null) (own_F (v := .null) (own_F (v := .null) (own_F (v := .null) (own_F (v := .null) (own_F (v := .null) (own_F (v := .null) P16 K2 own_nin0) K6 (own_nl D48 own_nin0)) K12 (own_nl D48 own_nin0)) K17 (own_nl D48 own_nin0)) K22 (own_nl D48 own_nin0)) K25 (own_nl P12 own_nin0)) K28 (own_nl P12 own_nin0)) K35 (own_nl P12 own_nin0)) K38 (own_nl P12 own_nin0)) K41 (own_nl P12 own_nin0)) K44 (own_nl P12 own_nin0))
  have F53 := (own_F (v := (.ref a4)) (own_F (v := (.ref a4)) (own_F (v := (.ref a4)) (own_F (v := (.ref a4)) (own_F (v := (.ref a4)) (own_F (v := (.ref a4)) (own_F (v := (.ref a4)) (own_F (v := (.ref a4)) (own_F (v := (.ref a4)) (own_F (v := (.ref a4)) (own_F (v := (.ref a4)) P17 K2 own_nin0) K6 (own_nl D48 own_nin0)) K12 (own_nl D48 own_nin0)) K17 (own_nl D48 own_nin0)) K22 (own_nl D48 own_nin0)) K25 (own_nl P12 own_nin0)) K28 (own_nl P12 own_nin0)) K35 (own_nl P12 own_nin0)) K38 (own_nl P12 own_nin0)) K41 (own_nl P12 own_nin0)) K44 (own_nl P12 own_nin0))
  have F54 := (own_F (v := .null) (own_F (v := .null) (own_F (v := .null) (own_F (v := .null) (own_F (v := .null) (own_F (v := .null) (own_F (v := .null) (own_F (v := .null) (own_F (v := .null) (own_F (v := .null) (own_F (v := .null) P18 K2 own_nin0) K6 (own_nl D48 own_nin0)) K12 (own_nl D48 own_nin0)) K17 (own_nl D48 own_nin0)) K22 (own_nl D48 own_nin0)) K25 (own_nl P12 own_nin0)) K28 (own_nl P12 own_nin0)) K35 (own_nl P12 own_nin0)) K38 (own_nl P12 own_nin0)) K41 (own_nl P12 own_nin0)) K44 (own_nl P12 own_nin0))
  have F55 := (own_F (v := (.ref a3)) (own_F (v := (.ref a3)) (own_F (v := (.ref a3)) (own_F (v := (.ref a3)) (own_F (v := (.ref a3)) (own_F (v := (.ref a3)) (own_F (v := (.ref a3)) (own_F (v := (.ref a3)) (own_F (v := (.ref a3)) (own_F (v := (.ref a3)) (own_F (v := (.ref a3)) P1 K2 own_nin0) K6 (own_nl D48 own_nin0)) K12 (own_nl D48 own_nin0)) K17 (own_nl D48 own_nin0)) K22 (own_nl D48 own_nin0)) K25 (own_nl P12 own_nin0)) K28 (own_nl P12 own_nin0)) K35 (own_nl P12 own_nin0)) K38 (own_nl P12 own_nin0)) K41 (own_nl P12 own_nin0)) K44 (own_nl P12 own_nin0))
  have F56 := (own_F (v := .null) (own_F (v := .null) (own_F (v := .null) (own_F (v := .null) (own_F (v := .null) (own_F (v := .null) (own_F (v := .null) (own_F (v := .null) (own_F (v := .null) (own_F (v := .null) (own_F (v := .null) P19 K2 own_nin0) K6 (own_nl D48 own_nin0)) K12 (own_nl D48 own_nin0)) K17 (own_nl D48 own_nin0)) K22 (own_nl D48 own_nin0)) K25 (own_nl P12 own_nin0)) K28 (own_nl P12 own_nin0)) K35 (own_nl P12 own_nin0)) K38 (own_nl P12 own_nin0)) K41 (own_nl P12 own_nin0)) K44 (own_nl P12 own_nin0))
  have F57 := (own_F (v := .null) (own_F (v := .null) (own_F (v := .null) (own_F (v := .null) (own_F (v := .null) (own_F (v := .null) (own_F (v := .null) (own_F (v := .null) (own_F (v := .null) (own_F (v := .null) (own_F (v := .null) P20 K2 own_nin0) K6 (own_nl D48 own_nin0)) K12 (own_nl D48 own_nin0)) K17 (own_nl D48 own_nin0)) K22 (own_nl D48 own_nin0)) K25 (own_nl P12 own_nin0)) K28 (own_nl P12 own_nin0)) K35 (own_nl P12 own_nin0)) K38 (own_nl P12 own_nin0)) K41 (own_nl P12 own_nin0)) K44 (own_nl P12 own_nin0))
  have F58 := (own_F (v := (.ref a5)) (own_F (v := (.ref a5)) (own_F (v := (.ref a5)) (own_F (v := (.ref a5)) (own_F (v := (.ref a5)) (own_F (v := (.ref a5)) (own_F (v := (.ref a5)) (own_F (v := (.ref a5)) (own_F (v := (.ref a5)) (own_F (v := (.ref a5)) (own_F (v := (.ref a5)) P21 K2 own_nin0) K6 (own_nl D48 own_nin0)) K12 (own_nl D48 own_nin0)) K17 (own_nl D48 own_nin0)) K22 (own_nl D48 own_nin0)) K25 (own_nl P12 own_nin0)) K28 (own_nl P12 own_nin0)) K35 (own_nl P12 own_nin0)) K38 (own_nl P12 own_nin0)) K41 (own_nl P12 own_nin0)) K44 (own_nl P12 own_nin0))
  refine own_virtual Y44 hx (pc' := 109) (W := 0) (cl' := 1) (sl' := 11) (as' := [(.int (0 : Int32)), .null, .null, (.int (1 : Int32)), (.ref b2)]) (S' := []) (a := a2) hZ hown (own_w hw 97 rfl) (own_w hw 98 rfl) (notFace_of_selects (args := #[]) (mvT hZ (own_w hw 100 rfl))) (own_w hw 100 rfl) (own_w hw 99 rfl) (own_w hw 3 rfl) (own_w hw 101 rfl) (by decide) F46 (rm12_25 l Z a0 hw [] a2 b2 a4 a3 a5 h44 n0 (own_sz Y44) F46 F47 F49 F50 P14 F51 F52 F53 F54 F55 F56 F57 F58) (hb hby d7_106) rfl (by rw [hml]; rfl) rfl (lenOf pd__ILjava_lang_Object_Ljava_lang_Object_ILcom_example_napkintree_napkintree_balancing_MultiwayTree_Node__V rfl) rfl (by decide) (by decide) rfl rfl (by decide) (by decide) P12_25_sz (own_fixR (S2 := []) rfl (fun T45 h45 Y45 R45 => ?_))
  obtain ⟨K45, G45_0, G45_1, G45_2, G45_3, G45_4, G45_5, G45_6, G45_7, G45_8⟩ := R45
  refine own_aloadN Y45 hx (pc' := 110) (hb hby d7_109) rfl rfl rfl ?_
  refine own_aloadN Y45 hx (pc' := 111) (hb hby d7_110) rfl rfl rfl ?_
  have F59 := (own_St (own_St (own_St (own_St (own_St (own_St (own_St (own_St (own_St (own_St (own_St (own_St P22 K2 own_all0) K6 (own_allS (own_plain E2) own_all0)) K12 (own_allS (own_plain F11) own_all0)) K17 (own_allS (own_plain F16) own_all0)) K22 (own_allS (own_plain F21) own_all0)) K25 (own_allS (own_plain F24) own_all0)) K28 (own_allS (own_plain F27) own_all0)) K35 (own_allS (own_plain F30) own_all0)) K38 (own_allS (own_plain F37) own_all0)) K41 (own_allS (own_plain F40) own_all0)) K44 (own_allS (own_plain F43) own_all0)) K45 (own_allS (own_plain F46) (own_allS (own_plain F46) (own_allS (own_plain F46) (own_allS (own_plain F46) (own_allS (own_plain F46) (own_allS (own_plain F46) (own_allS (own_plain F46) (own_allS (own_plain F46) (own_allS (own_plain F46) own_all0))))))))))
  refine own_getS Y45 hx (pc' := 114) (v := (.ref a6)) hZ hown (host := "") (Or.inl (own_w hw 126 rfl)) Via.refl F59 (hb hby d7_111) rfl (fun T60 Y60 => ?_)
  have F62 := (own_E (own_E (own_E (own_E (own_E (own_E (own_E (own_E (own_E (own_E (own_E (own_E P23 K2) K6) K12) K17) K22) K25) K28) K35) K38) K41) K44) K45)
  have D63 : a1 ≠ b2 := (Nat.ne_of_lt (Nat.lt_of_lt_of_le P23.lt le2))
  have F64 := (own_E (own_E (own_E (own_E (own_E P23 K2) K6) K12) K17) K22)
  have D65 : a1 ≠ a3 := (ne_exa F64 F24 (by decide))
  have F66 := (own_E (own_E (own_E (own_E (own_E (own_E F64 K25) K28) K35) K38) K41) K44)
  have D67 : a1 ≠ a2 := (ne_exa F66 F46 (by decide))
  have F68 := (own_F (v := (.int (0 : Int32))) (own_F (v := (.int (0 : Int32))) (own_F (v := (.int (0 : Int32))) (own_F (v := (.int (0 : Int32))) (own_F (v := (.int (0 : Int32))) (own_F (v := (.int (0 : Int32))) (own_F (v := (.int (0 : Int32))) (own_F (v := (.int (0 : Int32))) (own_F (v := (.int (0 : Int32))) (own_F (v := (.int (0 : Int32))) (own_F (v := (.int (0 : Int32))) (own_F (v := (.int (0 : Int32))) P24 K2 own_nin0) K6 (own_nl D63 own_nin0)) K12 (own_nl D63 own_nin0)) K17 (own_nl D63 own_nin0)) K22 (own_nl D63 own_nin0)) K25 (own_nl D65 own_nin0)) K28 (own_nl D65 own_nin0)) K35 (own_nl D65 own_nin0)) K38 (own_nl D65 own_nin0)) K41 (own_nl D65 own_nin0)) K44 (own_nl D65 own_nin0)) K45 (own_nl D67 (own_nl D67 (own_nl D67 (own_nl D67 (own_nl D67 (own_nl D67 (own_nl D67 (own_nl D67 (own_nl D67 own_nin0))))))))))
  have F69 := (own_St (own_St (own_St (own_St (own_St (own_St (own_St (own_St (own_St (own_St (own_St (own_St P25 K2 own_all0) K6 (own_allS (own_plain E2) own_all0)) K12 (own_allS (own_plain F11) own_all0)) K17 (own_allS (own_plain F16) own_all0)) K22 (own_allS (own_plain F21) own_all0)) K25 (own_allS (own_plain F24) own_all0)) K28 (own_allS (own_plain F27) own_all0)) K35 (own_allS (own_plain F30) own_all0)) K38 (own_allS (own_plain F37) own_all0)) K41 (own_allS (own_plain F40) own_all0)) K44 (own_allS (own_plain F43) own_all0)) K45 (own_allS (own_plain F46) (own_allS (own_plain F46) (own_allS (own_plain F46) (own_allS (own_plain F46) (own_allS (own_plain F46) (own_allS (own_plain F46) (own_allS (own_plain F46) (own_allS (own_plain F46) (own_allS (own_plain F46) own_all0))))))))))
  have F70 := (own_E (own_E (own_E (own_E (own_E (own_E (own_E (own_E (own_E (own_E (own_E (own_E P26 K2) K6) K12) K17) K22) K25) K28) K35) K38) K41) K44) K45)
  have D71 : a6 ≠ b2 := (Nat.ne_of_lt (Nat.lt_of_lt_of_le P26.lt le2))
  have F72 := (own_E (own_E (own_E (own_E (own_E P26 K2) K6) K12) K17) K22)
  have D73 : a6 ≠ a3 := (ne_exa F72 F24 (by decide))
  have F74 := (own_E (own_E (own_E (own_E (own_E (own_E F72 K25) K28) K35) K38) K41) K44)
  have D75 : a6 ≠ a2 := (ne_exa F74 F46 (by decide))
  have F76 := (own_F (v := (.int (1 : Int32))) (own_F (v := (.int (1 : Int32))) (own_F (v := (.int (1 : Int32))) (own_F (v := (.int (1 : Int32))) (own_F (v := (.int (1 : Int32))) (own_F (v := (.int (1 : Int32))) (own_F (v := (.int (1 : Int32))) (own_F (v := (.int (1 : Int32))) (own_F (v := (.int (1 : Int32))) (own_F (v := (.int (1 : Int32))) (own_F (v := (.int (1 : Int32))) (own_F (v := (.int (1 : Int32))) P27 K2 own_nin0) K6 (own_nl D71 own_nin0)) K12 (own_nl D71 own_nin0)) K17 (own_nl D71 own_nin0)) K22 (own_nl D71 own_nin0)) K25 (own_nl D73 own_nin0)) K28 (own_nl D73 own_nin0)) K35 (own_nl D73 own_nin0)) K38 (own_nl D73 own_nin0)) K41 (own_nl D73 own_nin0)) K44 (own_nl D73 own_nin0)) K45 (own_nl D75 (own_nl D75 (own_nl D75 (own_nl D75 (own_nl D75 (own_nl D75 (own_nl D75 (own_nl D75 (own_nl D75 own_nin0))))))))))
  have F77 := (own_F (v := (.int (2 : Int32))) (own_F (v := (.int (2 : Int32))) (own_F (v := (.int (2 : Int32))) (own_F (v := (.int (2 : Int32))) (own_F (v := (.int (2 : Int32))) (own_F (v := (.int (2 : Int32))) (own_F (v := (.int (2 : Int32))) (own_F (v := (.int (2 : Int32))) (own_F (v := (.int (2 : Int32))) (own_F (v := (.int (2 : Int32))) (own_F (v := (.int (2 : Int32))) (own_F (v := (.int (2 : Int32))) P28 K2 own_nin0) K6 (own_nl D7 own_nin0)) K12 (own_nl D7 own_nin0)) K17 (own_nl D7 own_nin0)) K22 (own_nl D7 own_nin0)) K25 (own_nr (sl_94 hw) own_nin0)) K28 (own_nr (sl_95 hw) own_nin0)) K35 (own_nr (sl_96 hw) own_nin0)) K38 (own_nr (sl_97 hw) own_nin0)) K41 (own_nr (sl_98 hw) own_nin0)) K44 (own_nr (sl_99 hw) own_nin0)) K45 (own_nl (Ne.symm P12) (own_nl (Ne.symm P12) (own_nl (Ne.symm P12) (own_nl (Ne.symm P12) (own_nl (Ne.symm P12) (own_nl (Ne.symm P12) (own_nl (Ne.symm P12) (own_nl (Ne.symm P12) (own_nl (Ne.symm P12) own_nin0))))))))))
  have F78 := (own_E (own_E F43 K44) K45)
  refine own_private Y60 hx (pc' := 117) (W := 0) (cl' := 1) (sl' := 11) (as' := [(.ref a3), (.ref a6)]) (S' := []) (a := a1) hZ hown (own_w hw 129 rfl) (own_w hw 130 rfl) (own_selP hZ (Cond.sameMethod_class (own_w hw 134 rfl)) (own_w hw 131 rfl) (own_w hw 130 rfl) (by decide)) (own_w hw 131 rfl) (own_w hw 19 rfl) (own_w hw 132 rfl) (by decide) F62 (rm17_26 l Z a0 hw [] a1 a3 a6 h45 n0 (own_sz Y60) F62 F68 F69 F70 F76 F77 F78 P7) (hb hby d7_114) rfl (by rw [hml]; rfl) rfl (lenOf pd__Lcom_example_napkintree_napkintree_balancing_MultiwayTree_Node_Lcom_example_napkintree_napkintree_balancing_NodeMark__V rfl) rfl (by decide) (by decide) rfl rfl (by decide) (by decide) P17_26_sz (own_fixR (S2 := []) rfl (fun T61 h61 Y61 R61 => ?_))
  obtain ⟨K61, G61_0⟩ := R61
  refine own_aloadN Y61 hx (pc' := 118) (hb hby d7_117) rfl rfl rfl ?_
  refine own_aload Y61 hx (pc' := 120) (hb hby d7_118) rfl rfl rfl ?_
  have F79 := (own_St F59 K61 (own_allS (own_plain F78) own_all0))
  refine own_getS Y61 hx (pc' := 123) (v := (.ref a6)) hZ hown (host := "") (Or.inl (own_w hw 126 rfl)) Via.refl F79 (hb hby d7_120) rfl (fun T80 Y80 => ?_)
  have F82 := (own_E F62 K61)
  have F83 := (own_F (v := (.int (0 : Int32))) F68 K61 (own_nl D65 own_nin0))
  have F84 := (own_St F69 K61 (own_allS (own_plain F78) own_all0))
  have F85 := (own_E F70 K61)
  have F86 := (own_F (v := (.int (1 : Int32))) F76 K61 (own_nl D73 own_nin0))
  have F87 := (own_F (v := (.int (0 : Int32))) (own_F (v := (.int (0 : Int32))) (own_F (v := (.int (0 : Int32))) (own_F (v := (.int (0 : Int32))) (own_F (v := (.int (0 : Int32))) (own_F (v := (.int (0 : Int32))) (own_F (v := (.int (0 : Int32))) (own_F (v := (.int (0 : Int32))) (own_F (v := (.int (0 : Int32))) (own_F (v := (.int (0 : Int32))) (own_F (v := (.int (0 : Int32))) (own_F (v := (.int (0 : Int32))) (D2 (Or.inl (own_w hw 153 rfl)) (ty := .int) (by decide)) K6 (own_nr (sl_100 hw) own_nin0)) K12 (own_nr (sl_101 hw) own_nin0)) K17 (own_nr (sl_102 hw) own_nin0)) K22 (own_nr (sl_103 hw) own_nin0)) K25 (own_nl (Ne.symm D7) own_nin0)) K28 (own_nl (Ne.symm D7) own_nin0)) K35 (own_nl (Ne.symm D7) own_nin0)) K38 (own_nl (Ne.symm D7) own_nin0)) K41 (own_nl (Ne.symm D7) own_nin0)) K44 (own_nl (Ne.symm D7) own_nin0)) K45 (own_nl (Ne.symm D48) (own_nl (Ne.symm D48) (own_nl (Ne.symm D48) (own_nl (Ne.symm D48) (own_nl (Ne.symm D48) (own_nl (Ne.symm D48) (own_nl (Ne.symm D48) (own_nl (Ne.symm D48) (own_nl (Ne.symm D48) own_nin0)))))))))) K61 (own_nl (Ne.symm D7) own_nin0))
  have F88 := (own_E (own_E (own_E (own_E (own_E (own_E (own_E (own_E (own_E F21 K22) K25) K28) K35) K38) K41) K44) K45) K61)
  refine own_private Y80 hx (pc' := 126) (W := 0) (cl' := 1) (sl' := 11) (as' := [(.ref b2), (.ref a6)]) (S' := []) (a := a1) hZ hown (own_w hw 129 rfl) (own_w hw 130 rfl) (own_selP hZ (Cond.sameMethod_class (own_w hw 134 rfl)) (own_w hw 131 rfl) (own_w hw 130 rfl) (by decide)) (own_w hw 131 rfl) (own_w hw 19 rfl) (own_w hw 132 rfl) (by decide) F82 (rm17_16 l Z a0 hw [] a1 b2 a6 h61 n0 (own_sz Y80) F82 F83 F84 F85 F86 F87 F88 (Nat.le_trans Z0 le2)) (hb hby d7_123) rfl (by rw [hml]; rfl) rfl (lenOf pd__Lcom_example_napkintree_napkintree_balancing_MultiwayTree_Node_Lcom_example_napkintree_napkintree_balancing_NodeMark__V rfl) rfl (by decide) (by decide) rfl rfl (by decide) (by decide) P17_16_sz (own_fixR (S2 := []) rfl (fun T81 h81 Y81 R81 => ?_))
  obtain ⟨K81, G81_0⟩ := R81
  refine own_aloadN Y81 hx (pc' := 127) (hb hby d7_126) rfl rfl rfl ?_
  refine own_aloadN Y81 hx (pc' := 128) (hb hby d7_127) rfl rfl rfl ?_
  have F89 := (own_St (own_St (own_St (own_St (own_St (own_St (own_St (own_St (own_St (own_St (own_St (own_St (own_St (own_St P29 K2 own_all0) K6 (own_allS (own_plain E2) own_all0)) K12 (own_allS (own_plain F11) own_all0)) K17 (own_allS (own_plain F16) own_all0)) K22 (own_allS (own_plain F21) own_all0)) K25 (own_allS (own_plain F24) own_all0)) K28 (own_allS (own_plain F27) own_all0)) K35 (own_allS (own_plain F30) own_all0)) K38 (own_allS (own_plain F37) own_all0)) K41 (own_allS (own_plain F40) own_all0)) K44 (own_allS (own_plain F43) own_all0)) K45 (own_allS (own_plain F46) (own_allS (own_plain F46) (own_allS (own_plain F46) (own_allS (own_plain F46) (own_allS (own_plain F46) (own_allS (own_plain F46) (own_allS (own_plain F46) (own_allS (own_plain F46) (own_allS (own_plain F46) own_all0)))))))))) K61 (own_allS (own_plain F78) own_all0)) K81 (own_allS (own_plain F88) own_all0))
  refine own_getS Y81 hx (pc' := 131) (v := (.ref a7)) hZ hown (host := "") (Or.inl (own_w hw 154 rfl)) Via.refl F89 (hb hby d7_128) rfl (fun T90 Y90 => ?_)
  have F92 := (own_E F82 K81)
  have F93 := (own_F (v := (.int (0 : Int32))) F83 K81 (own_nl D63 own_nin0))
  have F94 := (own_St F84 K81 (own_allS (own_plain F88) own_all0))
  have F95 := (own_E (own_E (own_E (own_E (own_E (own_E (own_E (own_E (own_E (own_E (own_E (own_E (own_E (own_E P30 K2) K6) K12) K17) K22) K25) K28) K35) K38) K41) K44) K45) K61) K81)
  have D96 : a7 ≠ b2 := (Nat.ne_of_lt (Nat.lt_of_lt_of_le P30.lt le2))
  have F97 := (own_E (own_E (own_E (own_E (own_E P30 K2) K6) K12) K17) K22)
  have D98 : a7 ≠ a3 := (ne_exa F97 F24 (by decide))
  have F99 := (own_E (own_E (own_E (own_E (own_E (own_E F97 K25) K28) K35) K38) K41) K44)
  have D100 : a7 ≠ a2 := (ne_exa F99 F46 (by decide))
  have F101 := (own_F (v := (.int (0 : Int32))) (own_F (v := (.int (0 : Int32))) (own_F (v := (.int (0 : Int32))) (own_F (v := (.int (0 : Int32))) (own_F (v := (.int (0 : Int32))) (own_F (v := (.int (0 : Int32))) (own_F (v := (.int (0 : Int32))) (own_F (v := (.int (0 : Int32))) (own_F (v := (.int (0 : Int32))) (own_F (v := (.int (0 : Int32))) (own_F (v := (.int (0 : Int32))) (own_F (v := (.int (0 : Int32))) (own_F (v := (.int (0 : Int32))) (own_F (v := (.int (0 : Int32))) P31 K2 own_nin0) K6 (own_nl D96 own_nin0)) K12 (own_nl D96 own_nin0)) K17 (own_nl D96 own_nin0)) K22 (own_nl D96 own_nin0)) K25 (own_nl D98 own_nin0)) K28 (own_nl D98 own_nin0)) K35 (own_nl D98 own_nin0)) K38 (own_nl D98 own_nin0)) K41 (own_nl D98 own_nin0)) K44 (own_nl D98 own_nin0)) K45 (own_nl D100 (own_nl D100 (own_nl D100 (own_nl D100 (own_nl D100 (own_nl D100 (own_nl D100 (own_nl D100 (own_nl D100 own_nin0)))))))))) K61 (own_nl D98 own_nin0)) K81 (own_nl D96 own_nin0))
  have F102 := (own_F (v := (.int (3 : Int32))) (own_F (v := (.int (3 : Int32))) (own_F (v := (.int (3 : Int32))) (own_F (v := (.int (3 : Int32))) (own_F (v := (.int (3 : Int32))) (own_F (v := (.int (3 : Int32))) (own_F (v := (.int (3 : Int32))) (own_F (v := (.int (3 : Int32))) (own_F (v := (.int (3 : Int32))) (own_F (v := (.int (3 : Int32))) (own_F (v := (.int (3 : Int32))) (own_F (v := (.int (3 : Int32))) (own_F (v := (.int (3 : Int32))) (own_F (v := (.int (3 : Int32))) P32 K2 own_nin0) K6 (own_nl D48 own_nin0)) K12 (own_nl D48 own_nin0)) K17 (own_nl D48 own_nin0)) K22 (own_nl D48 own_nin0)) K25 (own_nl P12 own_nin0)) K28 (own_nl P12 own_nin0)) K35 (own_nl P12 own_nin0)) K38 (own_nl P12 own_nin0)) K41 (own_nl P12 own_nin0)) K44 (own_nl P12 own_nin0)) K45 (own_nr (sl_97 hw) (own_nr (sl_99 hw) (own_nr (sl_96 hw) (own_nr (sl_98 hw) (own_nr (sl_100 hw) (own_nr (sl_101 hw) (own_nr (sl_95 hw) (own_nr (sl_94 hw) (own_nr (sl_103 hw) own_nin0)))))))))) K61 (own_nl P12 own_nin0)) K81 (own_nl D48 own_nin0))
  have F103 := (own_E (own_E (own_E F46 K45) K61) K81)
  refine own_private Y90 hx (pc' := 134) (W := 0) (cl' := 1) (sl' := 11) (as' := [(.ref a2), (.ref a7)]) (S' := []) (a := a1) hZ hown (own_w hw 129 rfl) (own_w hw 130 rfl) (own_selP hZ (Cond.sameMethod_class (own_w hw 134 rfl)) (own_w hw 131 rfl) (own_w hw 130 rfl) (by decide)) (own_w hw 131 rfl) (own_w hw 19 rfl) (own_w hw 132 rfl) (by decide) F92 (rm17_27 l Z a0 hw [] a1 a2 a7 h81 n0 (own_sz Y90) F92 F93 F94 F95 F101 F102 F103 P14) (hb hby d7_131) rfl (by rw [hml]; rfl) rfl (lenOf pd__Lcom_example_napkintree_napkintree_balancing_MultiwayTree_Node_Lcom_example_napkintree_napkintree_balancing_NodeMark__V rfl) rfl (by decide) (by decide) rfl rfl (by decide) (by decide) P17_27_sz (own_fixR (S2 := []) rfl (fun T91 h91 Y91 R91 => ?_))
  obtain ⟨K91, G91_0⟩ := R91
  have KC104 : own_Kp h0 h91 [(a3, Jvm.RoadKit.slotOf Z zs0 "child2" zs16), (a3, Jvm.RoadKit.slotOf Z zs0 "child3" zs16), (a3, Jvm.RoadKit.slotOf Z zs0 "key1" zs1), (a3, Jvm.RoadKit.slotOf Z zs0 "key2" zs1), (a3, Jvm.RoadKit.slotOf Z zs0 "value1" zs1), (a3, Jvm.RoadKit.slotOf Z zs0 "value2" zs1), (a2, Jvm.RoadKit.slotOf Z zs0 "key2" zs1), (a2, Jvm.RoadKit.slotOf Z zs0 "value2" zs1), (a2, Jvm.RoadKit.slotOf Z zs0 "key1" zs1), (a2, Jvm.RoadKit.slotOf Z zs0 "value1" zs1), (a2, Jvm.RoadKit.slotOf Z zs0 "key0" zs1), (a2, Jvm.RoadKit.slotOf Z zs0 "value0" zs1), (a2, Jvm.RoadKit.slotOf Z zs0 "child3" zs16), (a2, Jvm.RoadKit.slotOf Z zs0 "child2" zs16), (a2, Jvm.RoadKit.slotOf Z zs0 "child1" zs16), (a3, Jvm.RoadKit.slotOf Z zs0 "mark" "I"), (a2, Jvm.RoadKit.slotOf Z zs0 "mark" "I")] := ((((((((((((((((own_Kp.refl h0 [(a3, Jvm.RoadKit.slotOf Z zs0 "child2" zs16), (a3, Jvm.RoadKit.slotOf Z zs0 "child3" zs16), (a3, Jvm.RoadKit.slotOf Z zs0 "key1" zs1), (a3, Jvm.RoadKit.slotOf Z zs0 "key2" zs1), (a3, Jvm.RoadKit.slotOf Z zs0 "value1" zs1), (a3, Jvm.RoadKit.slotOf Z zs0 "value2" zs1), (a2, Jvm.RoadKit.slotOf Z zs0 "key2" zs1), (a2, Jvm.RoadKit.slotOf Z zs0 "value2" zs1), (a2, Jvm.RoadKit.slotOf Z zs0 "key1" zs1), (a2, Jvm.RoadKit.slotOf Z zs0 "value1" zs1), (a2, Jvm.RoadKit.slotOf Z zs0 "key0" zs1), (a2, Jvm.RoadKit.slotOf Z zs0 "value0" zs1), (a2, Jvm.RoadKit.slotOf Z zs0 "child3" zs16), (a2, Jvm.RoadKit.slotOf Z zs0 "child2" zs16), (a2, Jvm.RoadKit.slotOf Z zs0 "child1" zs16), (a3, Jvm.RoadKit.slotOf Z zs0 "mark" "I"), (a2, Jvm.RoadKit.slotOf Z zs0 "mark" "I")]).trans K2 own_all0).trans K6 (own_allS (Or.inr le2) own_all0)).trans K12 (own_allS (Or.inr le2) own_all0)).trans K17 (own_allS (Or.inr le2) own_all0)).trans K22 (own_allS (Or.inr le2) own_all0)).trans K25 (own_allS (Or.inl (List.mem_of_getElem? (i := 0) rfl)) own_all0)).trans K28 (own_allS (Or.inl (List.mem_of_getElem? (i := 1) rfl)) own_all0)).trans K35 (own_allS (Or.inl (List.mem_of_getElem? (i := 2) rfl)) own_all0)).trans K38 (own_allS (Or.inl (List.mem_of_getElem? (i := 3) rfl)) own_all0)).trans K41 (own_allS (Or.inl (List.mem_of_getElem? (i := 4) rfl)) own_all0)).trans K44 (own_allS (Or.inl (List.mem_of_getElem? (i := 5) rfl)) own_all0)).trans K45 (own_allS (Or.inl (List.mem_of_getElem? (i := 6) rfl)) (own_allS (Or.inl (List.mem_of_getElem? (i := 7) rfl)) (own_allS (Or.inl (List.mem_of_getElem? (i := 8) rfl)) (own_allS (Or.inl (List.mem_of_getElem? (i := 9) rfl)) (own_allS (Or.inl (List.mem_of_getElem? (i := 10) rfl)) (own_allS (Or.inl (List.mem_of_getElem? (i := 11) rfl)) (own_allS (Or.inl (List.mem_of_getElem? (i := 12) rfl)) (own_allS (Or.inl (List.mem_of_getElem? (i := 13) rfl)) (own_allS (Or.inl (List.mem_of_getElem? (i := 14) rfl)) own_all0)))))))))).trans K61 (own_allS (Or.inl (List.mem_of_getElem? (i := 15) rfl)) own_all0)).trans K81 (own_allS (Or.inr le2) own_all0)).trans K91 (own_allS (Or.inl (List.mem_of_getElem? (i := 16) rfl)) own_all0))
  have F105 := (own_F (v := .null) (own_F (v := .null) (own_F (v := .null) (own_F (v := .null) (own_F (v := .null) (own_F (v := .null) (own_F (v := .null) (own_F (v := .null) (own_F (v := .null) F25 K28 (own_nr (sl_77 hw) own_nin0)) K35 (own_nr (sl_61 hw) own_nin0)) K38 (own_nr (sl_59 hw) own_nin0)) K41 (own_nr (sl_62 hw) own_nin0)) K44 (own_nr (sl_60 hw) own_nin0)) K45 (own_nl (Ne.symm P12) (own_nl (Ne.symm P12) (own_nl (Ne.symm P12) (own_nl (Ne.symm P12) (own_nl (Ne.symm P12) (own_nl (Ne.symm P12) (own_nl (Ne.symm P12) (own_nl (Ne.symm P12) (own_nl (Ne.symm P12) own_nin0)))))))))) K61 (own_nr (sl_104 hw) own_nin0)) K81 (own_nl D7 own_nin0)) K91 (own_nl (Ne.symm P12) own_nin0))
  have F106 := (own_F (v := .null) (own_F (v := .null) (own_F (v := .null) (own_F (v := .null) (own_F (v := .null) (own_F (v := .null) (own_F (v := .null) (own_F (v := .null) F28 K35 (own_nr (sl_68 hw) own_nin0)) K38 (own_nr (sl_66 hw) own_nin0)) K41 (own_nr (sl_69 hw) own_nin0)) K44 (own_nr (sl_67 hw) own_nin0)) K45 (own_nl (Ne.symm P12) (own_nl (Ne.symm P12) (own_nl (Ne.symm P12) (own_nl (Ne.symm P12) (own_nl (Ne.symm P12) (own_nl (Ne.symm P12) (own_nl (Ne.symm P12) (own_nl (Ne.symm P12) (own_nl (Ne.symm P12) own_nin0)))))))))) K61 (own_nr (sl_105 hw) own_nin0)) K81 (own_nl D7 own_nin0)) K91 (own_nl (Ne.symm P12) own_nin0))
  have F107 := (own_F (v := .null) (own_F (v := .null) (own_F (v := .null) (own_F (v := .null) (own_F (v := .null) (own_F (v := .null) (own_F (v := .null) F35 K38 (own_nr (sl_32 hw) own_nin0)) K41 (own_nr (sl_48 hw) own_nin0)) K44 (own_nr (sl_33 hw) own_nin0)) K45 (own_nl (Ne.symm P12) (own_nl (Ne.symm P12) (own_nl (Ne.symm P12) (own_nl (Ne.symm P12) (own_nl (Ne.symm P12) (own_nl (Ne.symm P12) (own_nl (Ne.symm P12) (own_nl (Ne.symm P12) (own_nl (Ne.symm P12) own_nin0)))))))))) K61 (own_nr (sl_106 hw) own_nin0)) K81 (own_nl D7 own_nin0)) K91 (own_nl (Ne.symm P12) own_nin0))
  have F108 := (own_F (v := .null) (own_F (v := .null) (own_F (v := .null) (own_F (v := .null) (own_F (v := .null) (own_F (v := .null) F38 K41 (own_nr (sl_43 hw) own_nin0)) K44 (own_nr (sl_42 hw) own_nin0)) K45 (own_nl (Ne.symm P12) (own_nl (Ne.symm P12) (own_nl (Ne.symm P12) (own_nl (Ne.symm P12) (own_nl (Ne.symm P12) (own_nl (Ne.symm P12) (own_nl (Ne.symm P12) (own_nl (Ne.symm P12) (own_nl (Ne.symm P12) own_nin0)))))))))) K61 (own_nr (sl_107 hw) own_nin0)) K81 (own_nl D7 own_nin0)) K91 (own_nl (Ne.symm P12) own_nin0))
  have F109 := (own_F (v := .null) (own_F (v := .null) (own_F (v := .null) (own_F (v := .null) (own_F (v := .null) F41 K44 (own_nr (sl_38 hw) own_nin0)) K45 (own_nl (Ne.symm P12) (own_nl (Ne.symm P12) (own_nl (Ne.symm P12) (own_nl (Ne.symm P12) (own_nl (Ne.symm P12) (own_nl (Ne.symm P12) (own_nl (Ne.symm P12) (own_nl (Ne.symm P12) (own_nl (Ne.symm P12) own_nin0)))))))))) K61 (own_nr (sl_108 hw) own_nin0)) K81 (own_nl D7 own_nin0)) K91 (own_nl (Ne.symm P12) own_nin0))
  have F110 := (own_F (v := .null) (own_F (v := .null) (own_F (v := .null) (own_F (v := .null) F44 K45 (own_nl (Ne.symm P12) (own_nl (Ne.symm P12) (own_nl (Ne.symm P12) (own_nl (Ne.symm P12) (own_nl (Ne.symm P12) (own_nl (Ne.symm P12) (own_nl (Ne.symm P12) (own_nl (Ne.symm P12) (own_nl (Ne.symm P12) own_nin0)))))))))) K61 (own_nr (sl_109 hw) own_nin0)) K81 (own_nl D7 own_nin0)) K91 (own_nl (Ne.symm P12) own_nin0))
  have F111 := (own_F (v := .null) (own_F (v := .null) (own_F (v := .null) G45_0 K61 (own_nl P12 own_nin0)) K81 (own_nl D48 own_nin0)) K91 (own_nr (sl_107 hw) own_nin0))
  have F112 := (own_F (v := .null) (own_F (v := .null) (own_F (v := .null) G45_1 K61 (own_nl P12 own_nin0)) K81 (own_nl D48 own_nin0)) K91 (own_nr (sl_109 hw) own_nin0))
  have F113 := (own_F (v := (.ref a4)) (own_F (v := (.ref a4)) (own_F (v := (.ref a4)) G45_2 K61 (own_nl P12 own_nin0)) K81 (own_nl D48 own_nin0)) K91 (own_nr (sl_106 hw) own_nin0))
  have F114 := (own_F (v := .null) (own_F (v := .null) (own_F (v := .null) G45_3 K61 (own_nl P12 own_nin0)) K81 (own_nl D48 own_nin0)) K91 (own_nr (sl_108 hw) own_nin0))
  have F115 := (own_F (v := (.ref a4)) (own_F (v := (.ref a4)) (own_F (v := (.ref a4)) G45_4 K61 (own_nl P12 own_nin0)) K81 (own_nl D48 own_nin0)) K91 (own_nr (sl_110 hw) own_nin0))
  have F116 := (own_F (v := .null) (own_F (v := .null) (own_F (v := .null) G45_5 K61 (own_nl P12 own_nin0)) K81 (own_nl D48 own_nin0)) K91 (own_nr (sl_111 hw) own_nin0))
  have F117 := (own_F (v := .null) (own_F (v := .null) (own_F (v := .null) G45_6 K61 (own_nl P12 own_nin0)) K81 (own_nl D48 own_nin0)) K91 (own_nr (sl_105 hw) own_nin0))
  have F118 := (own_F (v := (.ref a5)) (own_F (v := (.ref a5)) (own_F (v := (.ref a5)) G45_7 K61 (own_nl P12 own_nin0)) K81 (own_nl D48 own_nin0)) K91 (own_nr (sl_104 hw) own_nin0))
  have F119 := (own_F (v := (.ref b2)) (own_F (v := (.ref b2)) (own_F (v := (.ref b2)) G45_8 K61 (own_nl P12 own_nin0)) K81 (own_nl D48 own_nin0)) K91 (own_nr (sl_112 hw) own_nin0))
  have F120 := (own_F (v := (.int (2 : Int32))) (own_F (v := (.int (2 : Int32))) G61_0 K81 (own_nl D7 own_nin0)) K91 (own_nl (Ne.symm P12) own_nin0))
  have F121 := (own_E (own_E F88 K81) K91)
  have F122 := (own_F (v := .null) (own_F (v := .null) (own_F (v := .null) (own_F (v := .null) (own_F (v := .null) (own_F (v := .null) (own_F (v := .null) (own_F (v := .null) (own_F (v := .null) (own_F (v := .null) (own_F (v := .null) F17 K22 (own_nr (sl_113 hw) own_nin0)) K25 (own_nl (Ne.symm D7) own_nin0)) K28 (own_nl (Ne.symm D7) own_nin0)) K35 (own_nl (Ne.symm D7) own_nin0)) K38 (own_nl (Ne.symm D7) own_nin0)) K41 (own_nl (Ne.symm D7) own_nin0)) K44 (own_nl (Ne.symm D7) own_nin0)) K45 (own_nl (Ne.symm D48) (own_nl (Ne.symm D48) (own_nl (Ne.symm D48) (own_nl (Ne.symm D48) (own_nl (Ne.symm D48) (own_nl (Ne.symm D48) (own_nl (Ne.symm D48) (own_nl (Ne.symm D48) (own_nl (Ne.symm D48) own_nin0)))))))))) K61 (own_nl (Ne.symm D7) own_nin0)) K81 (own_nr (sl_114 hw) own_nin0)) K91 (own_nl (Ne.symm D48) own_nin0))
  have F123 := (own_F (v := .null) (own_F (v := .null) (own_F (v := .null) (own_F (v := .null) (own_F (v := .null) (own_F (v := .null) (own_F (v := .null) (own_F (v := .null) (own_F (v := .null) (own_F (v := .null) (own_F (v := .null) (own_F (v := .null) (own_F (v := .null) (own_F (v := .null) (D2 (Or.inl (own_w hw 63 rfl)) (ty := (.object zs2)) (by decide)) K6 (own_nr (sl_44 hw) own_nin0)) K12 (own_nr (sl_45 hw) own_nin0)) K17 (own_nr (sl_26 hw) own_nin0)) K22 (own_nr (sl_81 hw) own_nin0)) K25 (own_nl (Ne.symm D7) own_nin0)) K28 (own_nl (Ne.symm D7) own_nin0)) K35 (own_nl (Ne.symm D7) own_nin0)) K38 (own_nl (Ne.symm D7) own_nin0)) K41 (own_nl (Ne.symm D7) own_nin0)) K44 (own_nl (Ne.symm D7) own_nin0)) K45 (own_nl (Ne.symm D48) (own_nl (Ne.symm D48) (own_nl (Ne.symm D48) (own_nl (Ne.symm D48) (own_nl (Ne.symm D48) (own_nl (Ne.symm D48) (own_nl (Ne.symm D48) (own_nl (Ne.symm D48) (own_nl (Ne.symm D48) own_nin0)))))))))) K61 (own_nl (Ne.symm D7) own_nin0)) K81 (own_nr (sl_107 hw) own_nin0)) K91 (own_nl (Ne.symm D48) own_nin0))
  have F124 := (own_F (v := .null) (own_F (v := .null) (own_F (v := .null) (own_F (v := .null) (own_F (v := .null) (own_F (v := .null) (own_F (v := .null) (own_F (v := .null) (own_F (v := .null) (own_F (v := .null) (own_F (v := .null) (own_F (v := .null) (own_F (v := .null) F6 K12 (own_nr (sl_53 hw) own_nin0)) K17 (own_nr (sl_29 hw) own_nin0)) K22 (own_nr (sl_87 hw) own_nin0)) K25 (own_nl (Ne.symm D7) own_nin0)) K28 (own_nl (Ne.symm D7) own_nin0)) K35 (own_nl (Ne.symm D7) own_nin0)) K38 (own_nl (Ne.symm D7) own_nin0)) K41 (own_nl (Ne.symm D7) own_nin0)) K44 (own_nl (Ne.symm D7) own_nin0)) K45 (own_nl (Ne.symm D48) (own_nl (Ne.symm D48) (own_nl (Ne.symm D48) (own_nl (Ne.symm D48) (own_nl (Ne.symm D48) (own_nl (Ne.symm D48) (own_nl (Ne.symm D48) (own_nl (Ne.symm D48) (own_nl (Ne.symm D48) own_nin0)))))))))) K61 (own_nl (Ne.symm D7) own_nin0)) K81 (own_nr (sl_110 hw) own_nin0)) K91 (own_nl (Ne.symm D48) own_nin0))
  have F125 := (own_F (v := .null) (own_F (v := .null) (own_F (v := .null) (own_F (v := .null) (own_F (v := .null) (own_F (v := .null) (own_F (v := .null) (own_F (v := .null) (own_F (v := .null) (own_F (v := .null) (own_F (v := .null) (own_F (v := .null) (own_F (v := .null) (own_F (v := .null) (D2 (Or.inl (own_w hw 67 rfl)) (ty := (.object zs2)) (by decide)) K6 (own_nr (sl_46 hw) own_nin0)) K12 (own_nr (sl_47 hw) own_nin0)) K17 (own_nr (sl_28 hw) own_nin0)) K22 (own_nr (sl_82 hw) own_nin0)) K25 (own_nl (Ne.symm D7) own_nin0)) K28 (own_nl (Ne.symm D7) own_nin0)) K35 (own_nl (Ne.symm D7) own_nin0)) K38 (own_nl (Ne.symm D7) own_nin0)) K41 (own_nl (Ne.symm D7) own_nin0)) K44 (own_nl (Ne.symm D7) own_nin0)) K45 (own_nl (Ne.symm D48) (own_nl (Ne.symm D48) (own_nl (Ne.symm D48) (own_nl (Ne.symm D48) (own_nl (Ne.symm D48) (own_nl (Ne.symm D48) (own_nl (Ne.symm D48) (own_nl (Ne.symm D48) (own_nl (Ne.symm D48) own_nin0)))))))))) K61 (own_nl (Ne.symm D7) own_nin0)) K81 (own_nr (sl_109 hw) own_nin0)) K91 (own_nl (Ne.symm D48) own_nin0))
  have F126 := (own_F (v := .null) (own_F (v := .null) (own_F (v := .null) (own_F (v := .null) (own_F (v := .null) (own_F (v := .null) (own_F (v := .null) (own_F (v := .null) (own_F (v := .null) (own_F (v := .null) (own_F (v := .null) (own_F (v := .null) F12 K17 (own_nr (sl_34 hw) own_nin0)) K22 (own_nr (sl_90 hw) own_nin0)) K25 (own_nl (Ne.symm D7) own_nin0)) K28 (own_nl (Ne.symm D7) own_nin0)) K35 (own_nl (Ne.symm D7) own_nin0)) K38 (own_nl (Ne.symm D7) own_nin0)) K41 (own_nl (Ne.symm D7) own_nin0)) K44 (own_nl (Ne.symm D7) own_nin0)) K45 (own_nl (Ne.symm D48) (own_nl (Ne.symm D48) (own_nl (Ne.symm D48) (own_nl (Ne.symm D48) (own_nl (Ne.symm D48) (own_nl (Ne.symm D48) (own_nl (Ne.symm D48) (own_nl (Ne.symm D48) (own_nl (Ne.symm D48) own_nin0)))))))))) K61 (own_nl (Ne.symm D7) own_nin0)) K81 (own_nr (sl_111 hw) own_nin0)) K91 (own_nl (Ne.symm D48) own_nin0))
  have F127 := (own_F (v := .null) (own_F (v := .null) (own_F (v := .null) (own_F (v := .null) (own_F (v := .null) (own_F (v := .null) (own_F (v := .null) (own_F (v := .null) (own_F (v := .null) (own_F (v := .null) (own_F (v := .null) (own_F (v := .null) (own_F (v := .null) (own_F (v := .null) (D2 (Or.inl (own_w hw 71 rfl)) (ty := (.object zs0)) (by decide)) K6 (own_nr (sl_63 hw) own_nin0)) K12 (own_nr (sl_64 hw) own_nin0)) K17 (own_nr (sl_58 hw) own_nin0)) K22 (own_nr (sl_80 hw) own_nin0)) K25 (own_nl (Ne.symm D7) own_nin0)) K28 (own_nl (Ne.symm D7) own_nin0)) K35 (own_nl (Ne.symm D7) own_nin0)) K38 (own_nl (Ne.symm D7) own_nin0)) K41 (own_nl (Ne.symm D7) own_nin0)) K44 (own_nl (Ne.symm D7) own_nin0)) K45 (own_nl (Ne.symm D48) (own_nl (Ne.symm D48) (own_nl (Ne.symm D48) (own_nl (Ne.symm D48) (own_nl (Ne.symm D48) (own_nl (Ne.symm D48) (own_nl (Ne.symm D48) (own_nl (Ne.symm D48) (own_nl (Ne.symm D48) own_nin0)))))))))) K61 (own_nl (Ne.symm D7) own_nin0)) K81 (own_nr (sl_104 hw) own_nin0)) K91 (own_nl (Ne.symm D48) own_nin0))
  have F128 := (own_F (v := .null) (own_F (v := .null) (own_F (v := .null) (own_F (v := .null) (own_F (v := .null) (own_F (v := .null) (own_F (v := .null) (own_F (v := .null) (own_F (v := .null) (own_F (v := .null) (own_F (v := .null) (own_F (v := .null) (own_F (v := .null) (own_F (v := .null) (D2 (Or.inl (own_w hw 73 rfl)) (ty := (.object zs0)) (by decide)) K6 (own_nr (sl_70 hw) own_nin0)) K12 (own_nr (sl_71 hw) own_nin0)) K17 (own_nr (sl_65 hw) own_nin0)) K22 (own_nr (sl_79 hw) own_nin0)) K25 (own_nl (Ne.symm D7) own_nin0)) K28 (own_nl (Ne.symm D7) own_nin0)) K35 (own_nl (Ne.symm D7) own_nin0)) K38 (own_nl (Ne.symm D7) own_nin0)) K41 (own_nl (Ne.symm D7) own_nin0)) K44 (own_nl (Ne.symm D7) own_nin0)) K45 (own_nl (Ne.symm D48) (own_nl (Ne.symm D48) (own_nl (Ne.symm D48) (own_nl (Ne.symm D48) (own_nl (Ne.symm D48) (own_nl (Ne.symm D48) (own_nl (Ne.symm D48) (own_nl (Ne.symm D48) (own_nl (Ne.symm D48) own_nin0)))))))))) K61 (own_nl (Ne.symm D7) own_nin0)) K81 (own_nr (sl_105 hw) own_nin0)) K91 (own_nl (Ne.symm D48) own_nin0))
  have F129 := (own_F (v := .null) (own_F (v := .null) (own_F (v := .null) (own_F (v := .null) (own_F (v := .null) (own_F (v := .null) (own_F (v := .null) (own_F (v := .null) (own_F (v := .null) (own_F (v := .null) F22 K25 (own_nl (Ne.symm D7) own_nin0)) K28 (own_nl (Ne.symm D7) own_nin0)) K35 (own_nl (Ne.symm D7) own_nin0)) K38 (own_nl (Ne.symm D7) own_nin0)) K41 (own_nl (Ne.symm D7) own_nin0)) K44 (own_nl (Ne.symm D7) own_nin0)) K45 (own_nl (Ne.symm D48) (own_nl (Ne.symm D48) (own_nl (Ne.symm D48) (own_nl (Ne.symm D48) (own_nl (Ne.symm D48) (own_nl (Ne.symm D48) (own_nl (Ne.symm D48) (own_nl (Ne.symm D48) (own_nl (Ne.symm D48) own_nin0)))))))))) K61 (own_nl (Ne.symm D7) own_nin0)) K81 (own_nr (sl_112 hw) own_nin0)) K91 (own_nl (Ne.symm D48) own_nin0))
  have F130 := (own_F (v := .null) (own_F (v := .null) (own_F (v := .null) (own_F (v := .null) (own_F (v := .null) (own_F (v := .null) (own_F (v := .null) (own_F (v := .null) (own_F (v := .null) (own_F (v := .null) (own_F (v := .null) (own_F (v := .null) (own_F (v := .null) (own_F (v := .null) (D2 (Or.inl (own_w hw 82 rfl)) (ty := (.object zs2)) (by decide)) K6 (own_nr (sl_49 hw) own_nin0)) K12 (own_nr (sl_50 hw) own_nin0)) K17 (own_nr (sl_25 hw) own_nin0)) K22 (own_nr (sl_83 hw) own_nin0)) K25 (own_nl (Ne.symm D7) own_nin0)) K28 (own_nl (Ne.symm D7) own_nin0)) K35 (own_nl (Ne.symm D7) own_nin0)) K38 (own_nl (Ne.symm D7) own_nin0)) K41 (own_nl (Ne.symm D7) own_nin0)) K44 (own_nl (Ne.symm D7) own_nin0)) K45 (own_nl (Ne.symm D48) (own_nl (Ne.symm D48) (own_nl (Ne.symm D48) (own_nl (Ne.symm D48) (own_nl (Ne.symm D48) (own_nl (Ne.symm D48) (own_nl (Ne.symm D48) (own_nl (Ne.symm D48) (own_nl (Ne.symm D48) own_nin0)))))))))) K61 (own_nl (Ne.symm D7) own_nin0)) K81 (own_nr (sl_106 hw) own_nin0)) K91 (own_nl (Ne.symm D48) own_nin0))
  have F131 := (own_F (v := .null) (own_F (v := .null) (own_F (v := .null) (own_F (v := .null) (own_F (v := .null) (own_F (v := .null) (own_F (v := .null) (own_F (v := .null) (own_F (v := .null) (own_F (v := .null) (own_F (v := .null) (own_F (v := .null) (own_F (v := .null) (own_F (v := .null) (D2 (Or.inl (own_w hw 94 rfl)) (ty := (.object zs2)) (by decide)) K6 (own_nr (sl_51 hw) own_nin0)) K12 (own_nr (sl_52 hw) own_nin0)) K17 (own_nr (sl_27 hw) own_nin0)) K22 (own_nr (sl_84 hw) own_nin0)) K25 (own_nl (Ne.symm D7) own_nin0)) K28 (own_nl (Ne.symm D7) own_nin0)) K35 (own_nl (Ne.symm D7) own_nin0)) K38 (own_nl (Ne.symm D7) own_nin0)) K41 (own_nl (Ne.symm D7) own_nin0)) K44 (own_nl (Ne.symm D7) own_nin0)) K45 (own_nl (Ne.symm D48) (own_nl (Ne.symm D48) (own_nl (Ne.symm D48) (own_nl (Ne.symm D48) (own_nl (Ne.symm D48) (own_nl (Ne.symm D48) (own_nl (Ne.symm D48) (own_nl (Ne.symm D48) (own_nl (Ne.symm D48) own_nin0)))))))))) K61 (own_nl (Ne.symm D7) own_nin0)) K81 (own_nr (sl_108 hw) own_nin0)) K91 (own_nl (Ne.symm D48) own_nin0))
  have F132 := (own_F (v := (.int (2 : Int32))) G81_0 K91 (own_nl (Ne.symm D48) own_nin0))
  exact own_ret0 Y91 hx hlk Bd.returns (hb hby d7_134) ⟨rfl, b2, KC104, le2, F105, F106, F107, F108, F109, F110, F111, F112, F113, F114, F115, F116, F117, F118, F119, F120, G91_0, F121, F122, F123, F124, F125, F126, F127, F128, F129, F130, F131, F132⟩ (by decide) (by decide)
def P13_29 (Z : State) (a1 : Addr) (a2 : Addr) (h0 : Heap) (h : Heap) : Prop := own_Kp h0 h [(a1, Jvm.RoadKit.slotOf Z zs0 "key2" zs1), (a1, Jvm.RoadKit.slotOf Z zs0 "value2" zs1), (a1, Jvm.RoadKit.slotOf Z zs0 "key1" zs1), (a1, Jvm.RoadKit.slotOf Z zs0 "value1" zs1), (a1, Jvm.RoadKit.slotOf Z zs0 "key0" zs1), (a1, Jvm.RoadKit.slotOf Z zs0 "value0" zs1)] ∧ Fld Z h a1 zs0 "key2" zs1 (.ref a2) ∧ Fld Z h a1 zs0 "value2" zs1 .null ∧ Fld Z h a1 zs0 "key1" zs1 (.ref a2) ∧ Fld Z h a1 zs0 "value1" zs1 .null ∧ Fld Z h a1 zs0 "key0" zs1 (.ref a2) ∧ Fld Z h a1 zs0 "value0" zs1 .null
theorem P13_29_sz {Z : State} {a1 : Addr} {a2 : Addr} {h0 : Heap} : ∀ v h', (own_R none (P13_29 Z a1 a2 h0)) v h' → Array.size h0 ≤ Array.size h' := by
  intro v h' q
  obtain ⟨-, K, -⟩ := q
  exact K.1
set_option maxRecDepth 65536 in
set_option maxHeartbeats 40000000 in
theorem rm13_29 (l : Launch) (Z : State) (a0 : Array Value) (hw : ∀ d ∈ tables_1, d.before a0 Z = true) (ws : List Jvm.Cond) (a1 : Addr) (a2 : Addr) (h0 : Heap) (n0 : Nat) (Z0 : n0 ≤ Array.size h0) (P0 : Sta Z h0 zs0 "NULL_KEY" zs1 (.ref a2)) (P1 : Fld Z h0 a1 zs0 "key1" zs1 (.ref a2)) (P2 : Fld Z h0 a1 zs0 "key2" zs1 .null) (P3 : Exa Z h0 a1 zs0) (P4 : n0 ≤ a1) (P5 : Fld Z h0 a1 zs0 "value1" zs1 .null) (P6 : Fld Z h0 a1 zs0 "value2" zs1 .null) (P7 : Fld Z h0 a1 zs0 "key0" zs1 (.ref a2)) (P8 : Fld Z h0 a1 zs0 "value0" zs1 .null) :
    MetFree l (⟨zs0, "insertEntry", zs20⟩ : MethodName) (head1 (Jvm.Cond.code (⟨zs0, "insertEntry", zs20⟩ : MethodName) prog_25_method_4_code 5 none :: ws) ({ frames := 1, cells := 0, slots := 0, locals := 12 } : Room)) (fun a U => a = #[(.ref a1), (.int (0 : Int32)), .null, .null] ∧ Z.Warmed39 U.vm ∧ U.heap = h0) (fun _ _ _ _ _ => True) (fun _ U o U' => ∃ v L, o = .returned v ∧ own_QQ n0 (own_R none (P13_29 Z a1 a2 h0)) v U'.heap L ∧ FrameEnd U o U' L ({ frames := 1, cells := 0, slots := 0, locals := 12 } : Room).cells ({ frames := 1, cells := 0, slots := 0, locals := 12 } : Room).slots) := by
  refine MetFree.of_bodySF (plainFor_of_name pn_com_example_napkintree_napkintree_balancing_MultiwayTree_Node) hisR ?_
  intro p e s m args below meth c s₁ Bd hml0 hP hK
  obtain ⟨rfl, hZ, hh⟩ := hP
  have hx := Bd.exec
  have hby := Bd.bytes
  have hml : c.maxLocals = 5 := hml0
  have hown : s.vm.findClass zs0 = some m.cls := findClass_of_methodNamed Bd.named
  have hnm := (name_of_methodNamed Bd.named Bd.method).1
  have hlk : meth.locks = false := BodyLoose.notSynchronized Bd
  have Y0 : own_S p l e ({ frames := 1, cells := 0, slots := 0, locals := 12 } : Room) s m #[(.ref a1), (.int (0 : Int32)), .null, .null] below meth c n0 s₁ h0 0 0 := ⟨[], Stand.of_body Bd, Fr.nil n0, by rw [← hh, Bd.state]; rfl, Z0⟩
  refine (?_ : own_Fin p e below _ _)
  refine own_st (fun t k => castTop (ef_13_RINN m a1 (0 : Int32)) k) ?_
  refine own_aloadN Y0 hx (pc' := 1) (hb hby d13_0) rfl rfl rfl ?_
  refine own_static Y0 hx (pc' := 4) (W := 0) (cl' := 0) (sl' := 0) (as' := [.null]) (S' := []) hZ hown (own_w hw 107 rfl) (own_w hw 108 rfl) (own_w hw 3 rfl) (own_w hw 109 rfl) (by decide) (rm14_9 l Z a0 hw [] a2 h0 n0 (own_sz Y0) P0) (hb hby d13_1) rfl (by rw [hml]; rfl) rfl (lenOf pd__Ljava_lang_Object__Ljava_lang_Object_ rfl) rfl (by decide) (by decide) rfl rfl (by decide) (by decide) own_Same.sz (own_fixS (S2 := [(.ref a2)]) rfl (fun T1 Y1 => ?_))
  refine own_astore Y1 hx (pc' := 6) (Ls' := #[.val (.ref a1), .val (.int (0 : Int32)), .val .null, .val .null, .val (.ref a2)]) (hb hby d13_4) rfl rfl rfl ?_
  refine own_iloadN Y1 hx (pc' := 7) (hb hby d13_6) rfl rfl ?_
  refine own_iconst Y1 hx (pc' := 8) (x := (2 : Int32)) (hb hby d13_7) rfl (by decide) ?_
  refine own_icmpYes Y1 hx (pc' := 25) (hb hby d13_8) (by decide) (by decide) (by decide) ?_
  refine own_aloadN Y1 hx (pc' := 26) (hb hby d13_25) rfl rfl rfl ?_
  refine own_aloadN Y1 hx (pc' := 27) (hb hby d13_26) rfl rfl rfl ?_
  refine own_getF Y1 hx (pc' := 30) (v := (.ref a2)) hZ hown (host := "") (Or.inl (own_w hw 81 rfl)) Via.refl P1 (hb hby d13_27) rfl (fun T2 Y2 => ?_)
  refine own_putF Y2 hx (pc' := 33) hZ hown (host := "") (Or.inl (own_w hw 110 rfl)) Via.refl P2 P3 (Or.inl (own_w hw 63 rfl)) (own_w hw 2 rfl) (ty := (.object zs2)) (by decide) rfl rfl P4 (hb hby d13_30) rfl (fun T3 h3 Y3 K3 F3 => ?_)
  refine own_aloadN Y3 hx (pc' := 34) (hb hby d13_33) rfl rfl rfl ?_
  refine own_aloadN Y3 hx (pc' := 35) (hb hby d13_34) rfl rfl rfl ?_
  have F4 := (own_F (v := .null) P5 K3 (own_nr (sl_19 hw) own_nin0))
  refine own_getF Y3 hx (pc' := 38) (v := .null) hZ hown (host := "") (Or.inl (own_w hw 93 rfl)) Via.refl F4 (hb hby d13_35) rfl (fun T5 Y5 => ?_)
  have F6 := (own_F (v := .null) P6 K3 (own_nr (sl_23 hw) own_nin0))
  have F7 := (own_E P3 K3)
  refine own_putF Y5 hx (pc' := 41) hZ hown (host := "") (Or.inl (own_w hw 111 rfl)) Via.refl F6 F7 (Or.inl (own_w hw 67 rfl)) (own_w hw 2 rfl) (ty := (.object zs2)) (by decide) rfl rfl P4 (hb hby d13_38) rfl (fun T8 h8 Y8 K8 F8 => ?_)
  refine own_iloadN Y8 hx (pc' := 42) (hb hby d13_41) rfl rfl ?_
  refine own_iconst Y8 hx (pc' := 43) (x := (1 : Int32)) (hb hby d13_42) rfl (by decide) ?_
  refine own_icmpYes Y8 hx (pc' := 60) (hb hby d13_43) (by decide) (by decide) (by decide) ?_
  refine own_aloadN Y8 hx (pc' := 61) (hb hby d13_60) rfl rfl rfl ?_
  refine own_aloadN Y8 hx (pc' := 62) (hb hby d13_61) rfl rfl rfl ?_
  have F9 := (own_F (v := (.ref a2)) (own_F (v := (.ref a2)) P7 K3 (own_nr (sl_30 hw) own_nin0)) K8 (own_nr (sl_31 hw) own_nin0))
  refine own_getF Y8 hx (pc' := 65) (v := (.ref a2)) hZ hown (host := "") (Or.inl (own_w hw 112 rfl)) Via.refl F9 (hb hby d13_62) rfl (fun T10 Y10 => ?_)
  have F11 := (own_F (v := (.ref a2)) (own_F (v := (.ref a2)) P1 K3 (own_nr (sl_32 hw) own_nin0)) K8 (own_nr (sl_33 hw) own_nin0))
  have F12 := (own_E F7 K8)
  refine own_putF Y10 hx (pc' := 68) hZ hown (host := "") (Or.inl (own_w hw 81 rfl)) Via.refl F11 F12 (Or.inl (own_w hw 82 rfl)) (own_w hw 2 rfl) (ty := (.object zs2)) (by decide) rfl rfl P4 (hb hby d13_65) rfl (fun T13 h13 Y13 K13 F13 => ?_)
  refine own_aloadN Y13 hx (pc' := 69) (hb hby d13_68) rfl rfl rfl ?_
  refine own_aloadN Y13 hx (pc' := 70) (hb hby d13_69) rfl rfl rfl ?_
  have F14 := (own_F (v := .null) (own_F (v := .null) (own_F (v := .null) P8 K3 (own_nr (sl_35 hw) own_nin0)) K8 (own_nr (sl_36 hw) own_nin0)) K13 (own_nr (sl_37 hw) own_nin0))
  refine own_getF Y13 hx (pc' := 73) (v := .null) hZ hown (host := "") (Or.inl (own_w hw 113 rfl)) Via.refl F14 (hb hby d13_70) rfl (fun T15 Y15 => ?_)
  have F16 := (own_F (v := .null) (own_F (v := .null) F4 K8 (own_nr (sl_38 hw) own_nin0)) K13 (own_nr (sl_18 hw) own_nin0))
  have F17 := (own_E F12 K13)
  refine own_putF Y15 hx (pc' := 76) hZ hown (host := "") (Or.inl (own_w hw 93 rfl)) Via.refl F16 F17 (Or.inl (own_w hw 94 rfl)) (own_w hw 2 rfl) (ty := (.object zs2)) (by decide) rfl rfl P4 (hb hby d13_73) rfl (fun T18 h18 Y18 K18 F18 => ?_)
  refine own_aloadN Y18 hx (pc' := 77) (hb hby d13_76) rfl rfl rfl ?_
  refine own_aload Y18 hx (pc' := 79) (hb hby d13_77) rfl rfl rfl ?_
  have F19 := (own_F (v := (.ref a2)) (own_F (v := (.ref a2)) F9 K13 (own_nr (sl_39 hw) own_nin0)) K18 (own_nr (sl_40 hw) own_nin0))
  have F20 := (own_E F17 K18)
  refine own_putF Y18 hx (pc' := 82) hZ hown (host := "") (Or.inl (own_w hw 112 rfl)) Via.refl F19 F20 (Or.inl (own_w hw 65 rfl)) (own_w hw 2 rfl) (ty := (.object zs2)) (by decide) rfl rfl P4 (hb hby d13_79) rfl (fun T21 h21 Y21 K21 F21 => ?_)
  refine own_aloadN Y21 hx (pc' := 83) (hb hby d13_82) rfl rfl rfl ?_
  refine own_aloadN Y21 hx (pc' := 84) (hb hby d13_83) rfl rfl rfl ?_
  have F22 := (own_F (v := .null) (own_F (v := .null) F14 K18 (own_nr (sl_41 hw) own_nin0)) K21 (own_nr (sl_4 hw) own_nin0))
  have F23 := (own_E F20 K21)
  refine own_putF Y21 hx (pc' := 87) hZ hown (host := "") (Or.inl (own_w hw 113 rfl)) Via.refl F22 F23 (Or.inl (own_w hw 69 rfl)) (own_w hw 2 rfl) (ty := (.object zs2)) (by decide) rfl rfl P4 (hb hby d13_84) rfl (fun T24 h24 Y24 K24 F24 => ?_)
  have KC25 : own_Kp h0 h24 [(a1, Jvm.RoadKit.slotOf Z zs0 "key2" zs1), (a1, Jvm.RoadKit.slotOf Z zs0 "value2" zs1), (a1, Jvm.RoadKit.slotOf Z zs0 "key1" zs1), (a1, Jvm.RoadKit.slotOf Z zs0 "value1" zs1), (a1, Jvm.RoadKit.slotOf Z zs0 "key0" zs1), (a1, Jvm.RoadKit.slotOf Z zs0 "value0" zs1)] := (((((((own_Kp.refl h0 [(a1, Jvm.RoadKit.slotOf Z zs0 "key2" zs1), (a1, Jvm.RoadKit.slotOf Z zs0 "value2" zs1), (a1, Jvm.RoadKit.slotOf Z zs0 "key1" zs1), (a1, Jvm.RoadKit.slotOf Z zs0 "value1" zs1), (a1, Jvm.RoadKit.slotOf Z zs0 "key0" zs1), (a1, Jvm.RoadKit.slotOf Z zs0 "value0" zs1)]).trans K3 (own_allS (Or.inl (List.mem_of_getElem? (i := 0) rfl)) own_all0)).trans K8 (own_allS (Or.inl (List.mem_of_getElem? (i := 1) rfl)) own_all0)).trans K13 (own_allS (Or.inl (List.mem_of_getElem? (i := 2) rfl)) own_all0)).trans K18 (own_allS (Or.inl (List.mem_of_getElem? (i := 3) rfl)) own_all0)).trans K21 (own_allS (Or.inl (List.mem_of_getElem? (i := 4) rfl)) own_all0)).trans K24 (own_allS (Or.inl (List.mem_of_getElem? (i := 5) rfl)) own_all0))
  have F26 := (own_F (v := (.ref a2)) (own_F (v := (.ref a2)) (own_F (v := (.ref a2)) (own_F (v := (.ref a2)) (own_F (v := (.ref a2)) F3 K8 (own_nr (sl_42 hw) own_nin0)) K13 (own_nr (sl_17 hw) own_nin0)) K18 (own_nr (sl_43 hw) own_nin0)) K21 (own_nr (sl_44 hw) own_nin0)) K24 (own_nr (sl_45 hw) own_nin0))
  have F27 := (own_F (v := .null) (own_F (v := .null) (own_F (v := .null) (own_F (v := .null) F8 K13 (own_nr (sl_22 hw) own_nin0)) K18 (own_nr (sl_24 hw) own_nin0)) K21 (own_nr (sl_46 hw) own_nin0)) K24 (own_nr (sl_47 hw) own_nin0))
  have F28 := (own_F (v := (.ref a2)) (own_F (v := (.ref a2)) (own_F (v := (.ref a2)) F13 K18 (own_nr (sl_48 hw) own_nin0)) K21 (own_nr (sl_49 hw) own_nin0)) K24 (own_nr (sl_50 hw) own_nin0))
  have F29 := (own_F (v := .null) (own_F (v := .null) F18 K21 (own_nr (sl_51 hw) own_nin0)) K24 (own_nr (sl_52 hw) own_nin0))
  have F30 := (own_F (v := (.ref a2)) F21 K24 (own_nr (sl_53 hw) own_nin0))
  exact own_ret0 Y24 hx hlk Bd.returns (hb hby d13_87) ⟨rfl, KC25, F26, F27, F28, F29, F30, F24⟩ (by decide) (by decide)
def P16_30 (Z : State) (a1 : Addr) (a2 : Addr) (a3 : Addr) (a4 : Addr) (h0 : Heap) (h : Heap) : Prop := own_Kp h0 h [(a1, Jvm.RoadKit.slotOf Z zs0 "child3" zs16), (a1, Jvm.RoadKit.slotOf Z zs0 "child2" zs16), (a1, Jvm.RoadKit.slotOf Z zs0 "child1" zs16)] ∧ Fld Z h a1 zs0 "child3" zs16 (.ref a3) ∧ Fld Z h a1 zs0 "child2" zs16 (.ref a4) ∧ Fld Z h a1 zs0 "child1" zs16 (.ref a2)
theorem P16_30_sz {Z : State} {a1 : Addr} {a2 : Addr} {a3 : Addr} {a4 : Addr} {h0 : Heap} : ∀ v h', (own_R none (P16_30 Z a1 a2 a3 a4 h0)) v h' → Array.size h0 ≤ Array.size h' := by
  intro v h' q
  obtain ⟨-, K, -⟩ := q
  exact K.1
set_option maxRecDepth 65536 in
set_option maxHeartbeats 40000000 in
theorem rm16_30 (l : Launch) (Z : State) (a0 : Array Value) (hw : ∀ d ∈ tables_1, d.before a0 Z = true) (ws : List Jvm.Cond) (a1 : Addr) (a2 : Addr) (a3 : Addr) (a4 : Addr) (h0 : Heap) (n0 : Nat) (Z0 : n0 ≤ Array.size h0) (P0 : Fld Z h0 a1 zs0 "child2" zs16 (.ref a3)) (P1 : Fld Z h0 a1 zs0 "child3" zs16 .null) (P2 : Exa Z h0 a1 zs0) (P3 : n0 ≤ a1) (P4 : Fld Z h0 a1 zs0 "child1" zs16 (.ref a4)) :
    MetFree l (⟨zs0, "insertChild", zs21⟩ : MethodName) (head1 (Jvm.Cond.code (⟨zs0, "insertChild", zs21⟩ : MethodName) prog_25_method_6_code 3 none :: ws) ({ frames := 0, cells := 0, slots := 0, locals := 0 } : Room)) (fun a U => a = #[(.ref a1), (.int (1 : Int32)), (.ref a2)] ∧ Z.Warmed39 U.vm ∧ U.heap = h0) (fun _ _ _ _ _ => True) (fun _ U o U' => ∃ v L, o = .returned v ∧ own_QQ n0 (own_R none (P16_30 Z a1 a2 a3 a4 h0)) v U'.heap L ∧ FrameEnd U o U' L ({ frames := 0, cells := 0, slots := 0, locals := 0 } : Room).cells ({ frames := 0, cells := 0, slots := 0, locals := 0 } : Room).slots) := by
  refine MetFree.of_bodySF (plainFor_of_name pn_com_example_napkintree_napkintree_balancing_MultiwayTree_Node) hisR ?_
  intro p e s m args below meth c s₁ Bd hml0 hP hK
  obtain ⟨rfl, hZ, hh⟩ := hP
  have hx := Bd.exec
  have hby := Bd.bytes
  have hml : c.maxLocals = 3 := hml0
  have hown : s.vm.findClass zs0 = some m.cls := findClass_of_methodNamed Bd.named
  have hnm := (name_of_methodNamed Bd.named Bd.method).1
  have hlk : meth.locks = false := BodyLoose.notSynchronized Bd
  have Y0 : own_S p l e ({ frames := 0, cells := 0, slots := 0, locals := 0 } : Room) s m #[(.ref a1), (.int (1 : Int32)), (.ref a2)] below meth c n0 s₁ h0 0 0 := ⟨[], Stand.of_body Bd, Fr.nil n0, by rw [← hh, Bd.state]; rfl, Z0⟩
  refine (?_ : own_Fin p e below _ _)
  refine own_st (fun t k => castTop (ef_16_RIR m a1 (1 : Int32) a2) k) ?_
  refine own_iloadN Y0 hx (pc' := 1) (hb hby d16_0) rfl rfl ?_
  refine own_iconst Y0 hx (pc' := 2) (x := (3 : Int32)) (hb hby d16_1) rfl (by decide) ?_
  refine own_icmpYes Y0 hx (pc' := 13) (hb hby d16_2) (by decide) (by decide) (by decide) ?_
  refine own_aloadN Y0 hx (pc' := 14) (hb hby d16_13) rfl rfl rfl ?_
  refine own_aloadN Y0 hx (pc' := 15) (hb hby d16_14) rfl rfl rfl ?_
  refine own_getF Y0 hx (pc' := 18) (v := (.ref a3)) hZ hown (host := "") (Or.inl (own_w hw 123 rfl)) Via.refl P0 (hb hby d16_15) rfl (fun T1 Y1 => ?_)
  refine own_putF Y1 hx (pc' := 21) hZ hown (host := "") (Or.inl (own_w hw 124 rfl)) Via.refl P1 P2 (Or.inl (own_w hw 73 rfl)) (own_w hw 2 rfl) (ty := (.object zs0)) (by decide) rfl rfl P3 (hb hby d16_18) rfl (fun T2 h2 Y2 K2 F2 => ?_)
  refine own_iloadN Y2 hx (pc' := 22) (hb hby d16_21) rfl rfl ?_
  refine own_iconst Y2 hx (pc' := 23) (x := (2 : Int32)) (hb hby d16_22) rfl (by decide) ?_
  refine own_icmpYes Y2 hx (pc' := 34) (hb hby d16_23) (by decide) (by decide) (by decide) ?_
  refine own_aloadN Y2 hx (pc' := 35) (hb hby d16_34) rfl rfl rfl ?_
  refine own_aloadN Y2 hx (pc' := 36) (hb hby d16_35) rfl rfl rfl ?_
  have F3 := (own_F (v := (.ref a4)) P4 K2 (own_nr (sl_76 hw) own_nin0))
  refine own_getF Y2 hx (pc' := 39) (v := (.ref a4)) hZ hown (host := "") (Or.inl (own_w hw 125 rfl)) Via.refl F3 (hb hby d16_36) rfl (fun T4 Y4 => ?_)
  have F5 := (own_F (v := (.ref a3)) P0 K2 (own_nr (sl_77 hw) own_nin0))
  have F6 := (own_E P2 K2)
  refine own_putF Y4 hx (pc' := 42) hZ hown (host := "") (Or.inl (own_w hw 123 rfl)) Via.refl F5 F6 (Or.inl (own_w hw 71 rfl)) (own_w hw 2 rfl) (ty := (.object zs0)) (by decide) rfl rfl P3 (hb hby d16_39) rfl (fun T7 h7 Y7 K7 F7 => ?_)
  refine own_iloadN Y7 hx (pc' := 43) (hb hby d16_42) rfl rfl ?_
  refine own_iconst Y7 hx (pc' := 44) (x := (1 : Int32)) (hb hby d16_43) rfl (by decide) ?_
  refine own_icmpNo Y7 hx (pc' := 47) (hb hby d16_44) rfl (by decide) ?_
  refine own_aloadN Y7 hx (pc' := 48) (hb hby d16_47) rfl rfl rfl ?_
  refine own_aloadN Y7 hx (pc' := 49) (hb hby d16_48) rfl rfl rfl ?_
  have F8 := (own_F (v := (.ref a4)) F3 K7 (own_nr (sl_78 hw) own_nin0))
  have F9 := (own_E F6 K7)
  refine own_putF Y7 hx (pc' := 52) hZ hown (host := "") (Or.inl (own_w hw 125 rfl)) Via.refl F8 F9 (Or.inl (own_w hw 75 rfl)) (own_w hw 2 rfl) (ty := (.object zs0)) (by decide) rfl rfl P3 (hb hby d16_49) rfl (fun T10 h10 Y10 K10 F10 => ?_)
  refine own_goto Y10 hx (pc' := 68) (hb hby d16_52) (by decide) (by decide) ?_
  have KC11 : own_Kp h0 h10 [(a1, Jvm.RoadKit.slotOf Z zs0 "child3" zs16), (a1, Jvm.RoadKit.slotOf Z zs0 "child2" zs16), (a1, Jvm.RoadKit.slotOf Z zs0 "child1" zs16)] := ((((own_Kp.refl h0 [(a1, Jvm.RoadKit.slotOf Z zs0 "child3" zs16), (a1, Jvm.RoadKit.slotOf Z zs0 "child2" zs16), (a1, Jvm.RoadKit.slotOf Z zs0 "child1" zs16)]).trans K2 (own_allS (Or.inl (List.mem_of_getElem? (i := 0) rfl)) own_all0)).trans K7 (own_allS (Or.inl (List.mem_of_getElem? (i := 1) rfl)) own_all0)).trans K10 (own_allS (Or.inl (List.mem_of_getElem? (i := 2) rfl)) own_all0))
  have F12 := (own_F (v := (.ref a3)) (own_F (v := (.ref a3)) F2 K7 (own_nr (sl_10 hw) own_nin0)) K10 (own_nr (sl_79 hw) own_nin0))
  have F13 := (own_F (v := (.ref a4)) F7 K10 (own_nr (sl_80 hw) own_nin0))
  exact own_ret0 Y10 hx hlk Bd.returns (hb hby d16_68) ⟨rfl, KC11, F12, F13, F10⟩ (by decide) (by decide)
def P12_31 (Z : State) (a1 : Addr) (a2 : Addr) (a3 : Addr) (a4 : Addr) (a5 : Addr) (a6 : Addr) (h0 : Heap) (h : Heap) : Prop := own_Kp h0 h [(a1, Jvm.RoadKit.slotOf Z zs0 "key2" zs1), (a1, Jvm.RoadKit.slotOf Z zs0 "value2" zs1), (a1, Jvm.RoadKit.slotOf Z zs0 "key1" zs1), (a1, Jvm.RoadKit.slotOf Z zs0 "value1" zs1), (a1, Jvm.RoadKit.slotOf Z zs0 "key0" zs1), (a1, Jvm.RoadKit.slotOf Z zs0 "value0" zs1), (a1, Jvm.RoadKit.slotOf Z zs0 "child3" zs16), (a1, Jvm.RoadKit.slotOf Z zs0 "child2" zs16), (a1, Jvm.RoadKit.slotOf Z zs0 "child1" zs16)] ∧ Fld Z h a1 zs0 "key2" zs1 (.ref a3) ∧ Fld Z h a1 zs0 "value2" zs1 .null ∧ Fld Z h a1 zs0 "key1" zs1 (.ref a3) ∧ Fld Z h a1 zs0 "value1" zs1 .null ∧ Fld Z h a1 zs0 "key0" zs1 (.ref a3) ∧ Fld Z h a1 zs0 "value0" zs1 .null ∧ Fld Z h a1 zs0 "child3" zs16 (.ref a5) ∧ Fld Z h a1 zs0 "child2" zs16 (.ref a6) ∧ Fld Z h a1 zs0 "child1" zs16 (.ref a2)
theorem P12_31_sz {Z : State} {a1 : Addr} {a2 : Addr} {a3 : Addr} {a4 : Addr} {a5 : Addr} {a6 : Addr} {h0 : Heap} : ∀ v h', (own_R none (P12_31 Z a1 a2 a3 a4 a5 a6 h0)) v h' → Array.size h0 ≤ Array.size h' := by
  intro v h' q
  obtain ⟨-, K, -⟩ := q
  exact K.1
set_option maxRecDepth 65536 in
set_option maxHeartbeats 40000000 in
theorem rm12_31 (l : Launch) (Z : State) (a0 : Array Value) (hw : ∀ d ∈ tables_1, d.before a0 Z = true) (ws : List Jvm.Cond) (a1 : Addr) (a2 : Addr) (a3 : Addr) (a4 : Addr) (a5 : Addr) (a6 : Addr) (h0 : Heap) (n0 : Nat) (Z0 : n0 ≤ Array.size h0) (P0 : Exa Z h0 a1 zs0) (P1 : Sta Z h0 zs0 "NULL_KEY" zs1 (.ref a3)) (P2 : Fld Z h0 a1 zs0 "key1" zs1 (.ref a3)) (P3 : Fld Z h0 a1 zs0 "key2" zs1 .null) (P4 : n0 ≤ a1) (P5 : Fld Z h0 a1 zs0 "value1" zs1 .null) (P6 : Fld Z h0 a1 zs0 "value2" zs1 .null) (P7 : Fld Z h0 a1 zs0 "key0" zs1 (.ref a3)) (P8 : Fld Z h0 a1 zs0 "value0" zs1 .null) (P9 : Fld Z h0 a1 zs0 "child0" zs16 (.ref a4)) (P10 : Fld Z h0 a1 zs0 "child2" zs16 (.ref a5)) (P11 : Fld Z h0 a1 zs0 "child3" zs16 .null) (P12 : Fld Z h0 a1 zs0 "child1" zs16 (.ref a6)) :
    MetFree l (⟨zs0, "insert", zs22⟩ : MethodName) (head1 (Jvm.Cond.code (⟨zs0, "insert", zs22⟩ : MethodName) prog_25_method_2_code 6 none :: ws) ({ frames := 2, cells := 0, slots := 0, locals := 28 } : Room)) (fun a U => a = #[(.ref a1), (.int (0 : Int32)), .null, .null, (.int (1 : Int32)), (.ref a2)] ∧ Z.Warmed39 U.vm ∧ U.heap = h0) (fun _ _ _ _ _ => True) (fun _ U o U' => ∃ v L, o = .returned v ∧ own_QQ n0 (own_R none (P12_31 Z a1 a2 a3 a4 a5 a6 h0)) v U'.heap L ∧ FrameEnd U o U' L ({ frames := 2, cells := 0, slots := 0, locals := 28 } : Room).cells ({ frames := 2, cells := 0, slots := 0, locals := 28 } : Room).slots) := by
  refine MetFree.of_bodySF (plainFor_of_name pn_com_example_napkintree_napkintree_balancing_MultiwayTree_Node) hisR ?_
  intro p e s m args below meth c s₁ Bd hml0 hP hK
  obtain ⟨rfl, hZ, hh⟩ := hP
  have hx := Bd.exec
  have hby := Bd.bytes
  have hml : c.maxLocals = 6 := hml0
  have hown : s.vm.findClass zs0 = some m.cls := findClass_of_methodNamed Bd.named
  have hnm := (name_of_methodNamed Bd.named Bd.method).1
  have hlk : meth.locks = false := BodyLoose.notSynchronized Bd
  have Y0 : own_S p l e ({ frames := 2, cells := 0, slots := 0, locals := 28 } : Room) s m #[(.ref a1), (.int (0 : Int32)), .null, .null, (.int (1 : Int32)), (.ref a2)] below meth c n0 s₁ h0 0 0 := ⟨[], Stand.of_body Bd, Fr.nil n0, by rw [← hh, Bd.state]; rfl, Z0⟩
  refine (?_ : own_Fin p e below _ _)
  refine own_st (fun t k => castTop (ef_12_RINNIR m a1 (0 : Int32) (1 : Int32) a2) k) ?_
  refine own_aloadN Y0 hx (pc' := 1) (hb hby d12_0) rfl rfl rfl ?_
  refine own_iloadN Y0 hx (pc' := 2) (hb hby d12_1) rfl rfl ?_
  refine own_aloadN Y0 hx (pc' := 3) (hb hby d12_2) rfl rfl rfl ?_
  refine own_aloadN Y0 hx (pc' := 4) (hb hby d12_3) rfl rfl rfl ?_
  refine own_virtual Y0 hx (pc' := 7) (W := 0) (cl' := 0) (sl' := 0) (as' := [(.int (0 : Int32)), .null, .null]) (S' := []) (a := a1) hZ hown (own_w hw 102 rfl) (own_w hw 103 rfl) (notFace_of_selects (args := #[]) (mvT hZ (own_w hw 105 rfl))) (own_w hw 105 rfl) (own_w hw 104 rfl) (own_w hw 3 rfl) (own_w hw 106 rfl) (by decide) P0 (rm13_29 l Z a0 hw [] a1 a3 h0 n0 (own_sz Y0) P1 P2 P3 P0 P4 P5 P6 P7 P8) (hb hby d12_4) rfl (by rw [hml]; rfl) rfl (lenOf pd__ILjava_lang_Object_Ljava_lang_Object__V rfl) rfl (by decide) (by decide) rfl rfl (by decide) (by decide) P13_29_sz (own_fixR (S2 := []) rfl (fun T1 h1 Y1 R1 => ?_))
  obtain ⟨K1, G1_0, G1_1, G1_2, G1_3, G1_4, G1_5⟩ := R1
  refine own_aloadN Y1 hx (pc' := 8) (hb hby d12_7) rfl rfl rfl ?_
  have F3 := (own_E P0 K1)
  have F4 := (own_F (v := (.ref a4)) P9 K1 (own_nr (sl_54 hw) (own_nr (sl_55 hw) (own_nr (sl_56 hw) (own_nr (sl_57 hw) (own_nr (sl_5 hw) (own_nr (sl_6 hw) own_nin0)))))))
  refine own_virtual Y1 hx (pc' := 11) (W := 0) (cl' := 0) (sl' := 0) (as' := []) (S' := []) (a := a1) hZ hown (own_w hw 114 rfl) (own_w hw 115 rfl) (notFace_of_selects (args := #[]) (mvT hZ (own_w hw 117 rfl))) (own_w hw 117 rfl) (own_w hw 116 rfl) (own_w hw 3 rfl) (own_w hw 118 rfl) (by decide) F3 (rm15_11 l Z a0 hw [] a1 a4 h1 n0 (own_sz Y1) F4) (hb hby d12_8) rfl (by rw [hml]; rfl) rfl (lenOf pd___Z rfl) rfl (by decide) (by decide) rfl rfl (by decide) (by decide) own_Same.sz (own_fixS (S2 := [(.int (0 : Int32))]) rfl (fun T2 Y2 => ?_))
  refine own_ifNo Y2 hx (pc' := 14) (hb hby d12_11) rfl (by decide) ?_
  refine own_aloadN Y2 hx (pc' := 15) (hb hby d12_14) rfl rfl rfl ?_
  refine own_iload Y2 hx (pc' := 17) (hb hby d12_15) rfl rfl ?_
  refine own_aload Y2 hx (pc' := 19) (hb hby d12_17) rfl rfl rfl ?_
  have F6 := (own_F (v := (.ref a5)) P10 K1 (own_nr (sl_59 hw) (own_nr (sl_60 hw) (own_nr (sl_61 hw) (own_nr (sl_62 hw) (own_nr (sl_63 hw) (own_nr (sl_64 hw) own_nin0)))))))
  have F7 := (own_F (v := .null) P11 K1 (own_nr (sl_66 hw) (own_nr (sl_67 hw) (own_nr (sl_68 hw) (own_nr (sl_69 hw) (own_nr (sl_70 hw) (own_nr (sl_71 hw) own_nin0)))))))
  have F8 := (own_F (v := (.ref a6)) P12 K1 (own_nr (sl_72 hw) (own_nr (sl_73 hw) (own_nr (sl_74 hw) (own_nr (sl_75 hw) (own_nr (sl_7 hw) (own_nr (sl_8 hw) own_nin0)))))))
  refine own_private Y2 hx (pc' := 22) (W := 0) (cl' := 0) (sl' := 0) (as' := [(.int (1 : Int32)), (.ref a2)]) (S' := []) (a := a1) hZ hown (own_w hw 119 rfl) (own_w hw 120 rfl) (own_selP hZ (own_nfI (own_w hw 2 rfl)) (own_w hw 121 rfl) (own_w hw 120 rfl) (by decide)) (own_w hw 121 rfl) (own_w hw 3 rfl) (own_w hw 122 rfl) (by decide) F3 (rm16_30 l Z a0 hw [] a1 a2 a5 a6 h1 n0 (own_sz Y2) F6 F7 F3 P4 F8) (hb hby d12_19) rfl (by rw [hml]; rfl) rfl (lenOf pd__ILcom_example_napkintree_napkintree_balancing_MultiwayTree_Node__V rfl) rfl (by decide) (by decide) rfl rfl (by decide) (by decide) P16_30_sz (own_fixR (S2 := []) rfl (fun T5 h5 Y5 R5 => ?_))
  obtain ⟨K5, G5_0, G5_1, G5_2⟩ := R5
  have KC9 : own_Kp h0 h5 [(a1, Jvm.RoadKit.slotOf Z zs0 "key2" zs1), (a1, Jvm.RoadKit.slotOf Z zs0 "value2" zs1), (a1, Jvm.RoadKit.slotOf Z zs0 "key1" zs1), (a1, Jvm.RoadKit.slotOf Z zs0 "value1" zs1), (a1, Jvm.RoadKit.slotOf Z zs0 "key0" zs1), (a1, Jvm.RoadKit.slotOf Z zs0 "value0" zs1), (a1, Jvm.RoadKit.slotOf Z zs0 "child3" zs16), (a1, Jvm.RoadKit.slotOf Z zs0 "child2" zs16), (a1, Jvm.RoadKit.slotOf Z zs0 "child1" zs16)] := (((own_Kp.refl h0 [(a1, Jvm.RoadKit.slotOf Z zs0 "key2" zs1), (a1, Jvm.RoadKit.slotOf Z zs0 "value2" zs1), (a1, Jvm.RoadKit.slotOf Z zs0 "key1" zs1), (a1, Jvm.RoadKit.slotOf Z zs0 "value1" zs1), (a1, Jvm.RoadKit.slotOf Z zs0 "key0" zs1), (a1, Jvm.RoadKit.slotOf Z zs0 "value0" zs1), (a1, Jvm.RoadKit.slotOf Z zs0 "child3" zs16), (a1, Jvm.RoadKit.slotOf Z zs0 "child2" zs16), (a1, Jvm.RoadKit.slotOf Z zs0 "child1" zs16)]).trans K1 (own_allS (Or.inl (List.mem_of_getElem? (i := 0) rfl)) (own_allS (Or.inl (List.mem_of_getElem? (i := 1) rfl)) (own_allS (Or.inl (List.mem_of_getElem? (i := 2) rfl)) (own_allS (Or.inl (List.mem_of_getElem? (i := 3) rfl)) (own_allS (Or.inl (List.mem_of_getElem? (i := 4) rfl)) (own_allS (Or.inl (List.mem_of_getElem? (i := 5) rfl)) own_all0))))))).trans K5 (own_allS (Or.inl (List.mem_of_getElem? (i := 6) rfl)) (own_allS (Or.inl (List.mem_of_getElem? (i := 7) rfl)) (own_allS (Or.inl (List.mem_of_getElem? (i := 8) rfl)) own_all0))))
  have F10 := (own_F (v := (.ref a3)) G1_0 K5 (own_nr (sl_16 hw) (own_nr (sl_15 hw) (own_nr (sl_81 hw) own_nin0))))
  have F11 := (own_F (v := .null) G1_1 K5 (own_nr (sl_21 hw) (own_nr (sl_20 hw) (own_nr (sl_82 hw) own_nin0))))
  have F12 := (own_F (v := (.ref a3)) G1_2 K5 (own_nr (sl_12 hw) (own_nr (sl_11 hw) (own_nr (sl_83 hw) own_nin0))))
  have F13 := (own_F (v := .null) G1_3 K5 (own_nr (sl_14 hw) (own_nr (sl_13 hw) (own_nr (sl_84 hw) own_nin0))))
  have F14 := (own_F (v := (.ref a3)) G1_4 K5 (own_nr (sl_85 hw) (own_nr (sl_86 hw) (own_nr (sl_87 hw) own_nin0))))
  have F15 := (own_F (v := .null) G1_5 K5 (own_nr (sl_88 hw) (own_nr (sl_89 hw) (own_nr (sl_90 hw) own_nin0))))
  exact own_ret0 Y5 hx hlk Bd.returns (hb hby d12_22) ⟨rfl, KC9, F10, F11, F12, F13, F14, F15, G5_0, G5_1, G5_2⟩ (by decide) (by decide)
def P17_32 (Z : State) (a1 : Addr) (a2 : Addr) (a3 : Addr) (h0 : Heap) (h : Heap) : Prop := own_Kp h0 h [(a2, Jvm.RoadKit.slotOf Z zs0 "mark" "I")] ∧ Fld Z h a2 zs0 "mark" "I" (.int (1 : Int32))
theorem P17_32_sz {Z : State} {a1 : Addr} {a2 : Addr} {a3 : Addr} {h0 : Heap} : ∀ v h', (own_R none (P17_32 Z a1 a2 a3 h0)) v h' → Array.size h0 ≤ Array.size h' := by
  intro v h' q
  obtain ⟨-, K, -⟩ := q
  exact K.1
set_option maxRecDepth 65536 in
set_option maxHeartbeats 40000000 in
theorem rm17_32 (l : Launch) (Z : State) (a0 : Array Value) (hw : ∀ d ∈ tables_1, d.before a0 Z = true) (ws : List Jvm.Cond) (a1 : Addr) (a2 : Addr) (a3 : Addr) (h0 : Heap) (n0 : Nat) (Z0 : n0 ≤ Array.size h0) (P0 : Exa Z h0 a1 zs9) (P1 : Fld Z h0 a1 zs7 "shapeCount" "I" (.int (0 : Int32))) (P2 : Sta Z h0 zs6 "MARK_BITS" "I" (.int (2 : Int32))) (P3 : Exa Z h0 a3 zs3) (P4 : Fld Z h0 a3 zs5 "ordinal" "I" (.int (0 : Int32))) (P5 : Fld Z h0 a2 zs0 "mark" "I" (.int (1 : Int32))) (P6 : Exa Z h0 a2 zs0) (P7 : n0 ≤ a2) :
    MetFree l (⟨zs6, "mark", zs23⟩ : MethodName) (head1 (Jvm.Cond.code (⟨zs6, "mark", zs23⟩ : MethodName) prog_24_method_10_code 3 none :: ws) ({ frames := 1, cells := 0, slots := 0, locals := 14 } : Room)) (fun a U => a = #[(.ref a1), (.ref a2), (.ref a3)] ∧ Z.Warmed39 U.vm ∧ U.heap = h0) (fun _ _ _ _ _ => True) (fun _ U o U' => ∃ v L, o = .returned v ∧ own_QQ n0 (own_R none (P17_32 Z a1 a2 a3 h0)) v U'.heap L ∧ FrameEnd U o U' L ({ frames := 1, cells := 0, slots := 0, locals := 14 } : Room).cells ({ frames := 1, cells := 0, slots := 0, locals := 14 } : Room).slots) := by
  refine MetFree.of_bodySF (plainFor_of_name pn_com_example_napkintree_napkintree_balancing_MultiwayTree) hisR ?_
  intro p e s m args below meth c s₁ Bd hml0 hP hK
  obtain ⟨rfl, hZ, hh⟩ := hP
  have hx := Bd.exec
  have hby := Bd.bytes
  have hml : c.maxLocals = 3 := hml0
  have hown : s.vm.findClass zs6 = some m.cls := findClass_of_methodNamed Bd.named
  have hnm := (name_of_methodNamed Bd.named Bd.method).1
  have hlk : meth.locks = false := BodyLoose.notSynchronized Bd
  have Y0 : own_S p l e ({ frames := 1, cells := 0, slots := 0, locals := 14 } : Room) s m #[(.ref a1), (.ref a2), (.ref a3)] below meth c n0 s₁ h0 0 0 := ⟨[], Stand.of_body Bd, Fr.nil n0, by rw [← hh, Bd.state]; rfl, Z0⟩
  refine (?_ : own_Fin p e below _ _)
  refine own_st (fun t k => castTop (ef_17_RRR m a1 a2 a3) k) ?_
  refine own_aloadN Y0 hx (pc' := 1) (hb hby d17_0) rfl rfl rfl ?_
  refine own_aloadN Y0 hx (pc' := 2) (hb hby d17_1) rfl rfl rfl ?_
  refine own_virtualUp Y0 hx (pc' := 5) (W := 1) (cl' := 0) (sl' := 0) (as' := []) (S' := [(.ref a2)]) (a := a1) hZ hown (own_w hw 133 rfl) (own_w hw 134 rfl) (own_w hw 135 rfl) (own_w hw 137 rfl) (own_w hw 136 rfl) (own_w hw 24 rfl) (own_w hw 138 rfl) (by decide) P0 (rm18_14 l Z a0 hw [] a1 h0 n0 (own_sz Y0) P1) (hb hby d17_2) rfl (by rw [hml]; rfl) rfl (lenOf pd___I rfl) rfl (by decide) (by decide) rfl rfl (by decide) (by decide) own_Same.sz (own_fixS (S2 := [(.int (0 : Int32)), (.ref a2)]) rfl (fun T1 Y1 => ?_))
  refine own_getS Y1 hx (pc' := 8) (v := (.int (2 : Int32))) hZ hown (host := "") (Or.inl (own_w hw 141 rfl)) Via.refl P2 (hb hby d17_5) rfl (fun T2 Y2 => ?_)
  refine own_ishl Y2 hx (pc' := 9) (hb hby d17_8) rfl (z := (0 : Int32)) (by decide) ?_
  refine own_aloadN Y2 hx (pc' := 10) (hb hby d17_9) rfl rfl rfl ?_
  refine own_virtualUp Y2 hx (pc' := 13) (W := 2) (cl' := 0) (sl' := 0) (as' := []) (S' := [(.int (0 : Int32)), (.ref a2)]) (a := a3) hZ hown (own_w hw 143 rfl) (own_w hw 144 rfl) (own_w hw 145 rfl) (own_w hw 147 rfl) (own_w hw 146 rfl) (own_w hw 148 rfl) (own_w hw 149 rfl) (by decide) P3 (rm19_17 l Z a0 hw [] a3 h0 n0 (own_sz Y2) P4) (hb hby d17_10) rfl (by rw [hml]; rfl) rfl (lenOf pd___I rfl) rfl (by decide) (by decide) rfl rfl (by decide) (by decide) own_Same.sz (own_fixS (S2 := [(.int (0 : Int32)), (.int (0 : Int32)), (.ref a2)]) rfl (fun T3 Y3 => ?_))
  refine own_iconst Y3 hx (pc' := 14) (x := (1 : Int32)) (hb hby d17_13) rfl (by decide) ?_
  refine own_iadd Y3 hx (pc' := 15) (hb hby d17_14) rfl (z := (1 : Int32)) (by decide) ?_
  refine own_ior Y3 hx (pc' := 16) (hb hby d17_15) rfl (z := (1 : Int32)) (by decide) ?_
  refine own_putF Y3 hx (pc' := 19) hZ hown (Or.inr (own_w hw 152 rfl)) Via.refl P5 P6 (Or.inl (own_w hw 153 rfl)) (own_w hw 2 rfl) (ty := .int) (by decide) rfl rfl P7 (hb hby d17_16) rfl (fun T4 h4 Y4 K4 F4 => ?_)
  have KC5 : own_Kp h0 h4 [(a2, Jvm.RoadKit.slotOf Z zs0 "mark" "I")] := ((own_Kp.refl h0 [(a2, Jvm.RoadKit.slotOf Z zs0 "mark" "I")]).trans K4 (own_allS (Or.inl (List.mem_of_getElem? (i := 0) rfl)) own_all0))
  exact own_ret0 Y4 hx hlk Bd.returns (hb hby d17_19) ⟨rfl, KC5, F4⟩ (by decide) (by decide)
def P7_33 (Z : State) (a1 : Addr) (a2 : Addr) (a3 : Addr) (a4 : Addr) (a5 : Addr) (a6 : Addr) (a7 : Addr) (a8 : Addr) (h0 : Heap) (h : Heap) : Prop := ∃ b2 : Addr, own_Kp h0 h [(a3, Jvm.RoadKit.slotOf Z zs0 "child2" zs16), (a3, Jvm.RoadKit.slotOf Z zs0 "child3" zs16), (a3, Jvm.RoadKit.slotOf Z zs0 "key1" zs1), (a3, Jvm.RoadKit.slotOf Z zs0 "key2" zs1), (a3, Jvm.RoadKit.slotOf Z zs0 "value1" zs1), (a3, Jvm.RoadKit.slotOf Z zs0 "value2" zs1), (a2, Jvm.RoadKit.slotOf Z zs0 "key2" zs1), (a2, Jvm.RoadKit.slotOf Z zs0 "value2" zs1), (a2, Jvm.RoadKit.slotOf Z zs0 "key1" zs1), (a2, Jvm.RoadKit.slotOf Z zs0 "value1" zs1), (a2, Jvm.RoadKit.slotOf Z zs0 "key0" zs1), (a2, Jvm.RoadKit.slotOf Z zs0 "value0" zs1), (a2, Jvm.RoadKit.slotOf Z zs0 "child3" zs16), (a2, Jvm.RoadKit.slotOf Z zs0 "child2" zs16), (a2, Jvm.RoadKit.slotOf Z zs0 "child1" zs16), (a3, Jvm.RoadKit.slotOf Z zs0 "mark" "I"), (a2, Jvm.RoadKit.slotOf Z zs0 "mark" "I")] ∧ Array.size h0 ≤ b2 ∧ Fld Z h a3 zs0 "child2" zs16 .null ∧ Fld Z h a3 zs0 "child3" zs16 .null ∧ Fld Z h a3 zs0 "key1" zs1 .null ∧ Fld Z h a3 zs0 "key2" zs1 .null ∧ Fld Z h a3 zs0 "value1" zs1 .null ∧ Fld Z h a3 zs0 "value2" zs1 .null ∧ Fld Z h a2 zs0 "key2" zs1 (.ref a4) ∧ Fld Z h a2 zs0 "value2" zs1 .null ∧ Fld Z h a2 zs0 "key1" zs1 (.ref a4) ∧ Fld Z h a2 zs0 "value1" zs1 .null ∧ Fld Z h a2 zs0 "key0" zs1 (.ref a4) ∧ Fld Z h a2 zs0 "value0" zs1 .null ∧ Fld Z h a2 zs0 "child3" zs16 (.ref a5) ∧ Fld Z h a2 zs0 "child2" zs16 (.ref a6) ∧ Fld Z h a2 zs0 "child1" zs16 (.ref b2) ∧ Fld Z h a3 zs0 "mark" "I" (.int (2 : Int32)) ∧ Fld Z h a2 zs0 "mark" "I" (.int (1 : Int32)) ∧ Exa Z h b2 zs0 ∧ Fld Z h b2 zs0 "child0" zs16 .null ∧ Fld Z h b2 zs0 "key2" zs1 .null ∧ Fld Z h b2 zs0 "key0" zs1 .null ∧ Fld Z h b2 zs0 "value2" zs1 .null ∧ Fld Z h b2 zs0 "value0" zs1 .null ∧ Fld Z h b2 zs0 "child2" zs16 .null ∧ Fld Z h b2 zs0 "child3" zs16 .null ∧ Fld Z h b2 zs0 "child1" zs16 .null ∧ Fld Z h b2 zs0 "key1" zs1 .null ∧ Fld Z h b2 zs0 "value1" zs1 .null ∧ Fld Z h b2 zs0 "mark" "I" (.int (2 : Int32))
theorem P7_33_sz {Z : State} {a1 : Addr} {a2 : Addr} {a3 : Addr} {a4 : Addr} {a5 : Addr} {a6 : Addr} {a7 : Addr} {a8 : Addr} {h0 : Heap} : ∀ v h', (own_R none (P7_33 Z a1 a2 a3 a4 a5 a6 a7 a8 h0)) v h' → Array.size h0 ≤ Array.size h' := by
  intro v h' q
  obtain ⟨-, _, K, -⟩ := q
  exact K.1
set_option maxRecDepth 65536 in
set_option maxHeartbeats 40000000 in
theorem rm7_33 (l : Launch) (Z : State) (a0 : Array Value) (hw : ∀ d ∈ tables_1, d.before a0 Z = true) (ws : List Jvm.Cond) (a1 : Addr) (a2 : Addr) (a3 : Addr) (a4 : Addr) (a5 : Addr) (a6 : Addr) (a7 : Addr) (a8 : Addr) (h0 : Heap) (n0 : Nat) (Z0 : n0 ≤ Array.size h0) (P0 : Exa Z h0 a2 zs0) (P1 : Fld Z h0 a2 zs0 "child0" zs16 (.ref a3)) (P2 : Fld Z h0 a3 zs0 "key2" zs1 .null) (P3 : Fld Z h0 a3 zs0 "value2" zs1 .null) (P4 : Exa Z h0 a3 zs0) (P5 : Fld Z h0 a3 zs0 "child2" zs16 .null) (P6 : Fld Z h0 a3 zs0 "child3" zs16 .null) (P7 : n0 ≤ a3) (P8 : Fld Z h0 a3 zs0 "key1" zs1 .null) (P9 : Sta Z h0 zs0 "NULL_KEY" zs1 (.ref a4)) (P10 : Fld Z h0 a3 zs0 "value1" zs1 .null) (P11 : Fld Z h0 a2 zs0 "key1" zs1 (.ref a4)) (P12 : a2 ≠ a3) (P13 : Fld Z h0 a2 zs0 "key2" zs1 .null) (P14 : n0 ≤ a2) (P15 : Fld Z h0 a2 zs0 "value1" zs1 .null) (P16 : Fld Z h0 a2 zs0 "value2" zs1 .null) (P17 : Fld Z h0 a2 zs0 "key0" zs1 (.ref a4)) (P18 : Fld Z h0 a2 zs0 "value0" zs1 .null) (P19 : Fld Z h0 a2 zs0 "child2" zs16 (.ref a5)) (P20 : Fld Z h0 a2 zs0 "child3" zs16 .null) (P21 : Fld Z h0 a2 zs0 "child1" zs16 (.ref a6)) (P22 : Sta Z h0 zs3 "SPLIT" zs4 (.ref a7)) (P23 : Exa Z h0 a1 zs9) (P24 : Fld Z h0 a1 zs7 "shapeCount" "I" (.int (0 : Int32))) (P25 : Sta Z h0 zs6 "MARK_BITS" "I" (.int (2 : Int32))) (P26 : Exa Z h0 a7 zs3) (P27 : Fld Z h0 a7 zs5 "ordinal" "I" (.int (1 : Int32))) (P28 : Fld Z h0 a3 zs0 "mark" "I" (.int (2 : Int32))) (P29 : Sta Z h0 zs3 "ABSORBED" zs4 (.ref a8)) (P30 : Exa Z h0 a8 zs3) (P31 : Fld Z h0 a8 zs5 "ordinal" "I" (.int (0 : Int32))) (P32 : Fld Z h0 a2 zs0 "mark" "I" (.int (1 : Int32))) :
    MetFree l (⟨zs6, "splitChild", zs24⟩ : MethodName) (head1 (Jvm.Cond.code (⟨zs6, "splitChild", zs24⟩ : MethodName) prog_24_method_6_code 7 none :: ws) ({ frames := 3, cells := 1, slots := 11, locals := 45 } : Room)) (fun a U => a = #[(.ref a1), (.ref a2), (.int (0 : Int32))] ∧ Z.Warmed39 U.vm ∧ U.heap = h0) (fun _ _ _ _ _ => True) (fun _ U o U' => ∃ v L, o = .returned v ∧ own_QQ n0 (own_R none (P7_33 Z a1 a2 a3 a4 a5 a6 a7 a8 h0)) v U'.heap L ∧ FrameEnd U o U' L ({ frames := 3, cells := 1, slots := 11, locals := 45 } : Room).cells ({ frames := 3, cells := 1, slots := 11, locals := 45 } : Room).slots) := by
  refine MetFree.of_bodySF (plainFor_of_name pn_com_example_napkintree_napkintree_balancing_MultiwayTree) hisR ?_
  intro p e s m args below meth c s₁ Bd hml0 hP hK
  obtain ⟨rfl, hZ, hh⟩ := hP
  have hx := Bd.exec
  have hby := Bd.bytes
  have hml : c.maxLocals = 7 := hml0
  have hown : s.vm.findClass zs6 = some m.cls := findClass_of_methodNamed Bd.named
  have hnm := (name_of_methodNamed Bd.named Bd.method).1
  have hlk : meth.locks = false := BodyLoose.notSynchronized Bd
  have Y0 : own_S p l e ({ frames := 3, cells := 1, slots := 11, locals := 45 } : Room) s m #[(.ref a1), (.ref a2), (.int (0 : Int32))] below meth c n0 s₁ h0 0 0 := ⟨[], Stand.of_body Bd, Fr.nil n0, by rw [← hh, Bd.state]; rfl, Z0⟩
  refine (?_ : own_Fin p e below _ _)
  refine own_st (fun t k => castTop (ef_7_RRI m a1 a2 (0 : Int32)) k) ?_
  refine own_aloadN Y0 hx (pc' := 1) (hb hby d7_0) rfl rfl rfl ?_
  refine own_iloadN Y0 hx (pc' := 2) (hb hby d7_1) rfl rfl ?_
  refine own_virtual Y0 hx (pc' := 5) (W := 0) (cl' := 0) (sl' := 0) (as' := [(.int (0 : Int32))]) (S' := []) (a := a2) hZ hown (own_w hw 56 rfl) (own_w hw 57 rfl) (notFace_of_selects (args := #[]) (mvT hZ (own_w hw 59 rfl))) (own_w hw 59 rfl) (own_w hw 58 rfl) (own_w hw 3 rfl) (own_w hw 60 rfl) (by decide) P0 (rm8_5 l Z a0 hw [] a2 a3 h0 n0 (own_sz Y0) P1) (hb hby d7_2) rfl (by rw [hml]; rfl) rfl (lenOf pd__I_Lcom_example_napkintree_napkintree_balancing_MultiwayTree_Node_ rfl) rfl (by decide) (by decide) rfl rfl (by decide) (by decide) own_Same.sz (own_fixS (S2 := [(.ref a3)]) rfl (fun T1 Y1 => ?_))
  refine own_astoreN Y1 hx (pc' := 6) (Ls' := #[.val (.ref a1), .val (.ref a2), .val (.int (0 : Int32)), .val (.ref a3), .unset, .unset, .unset]) (hb hby d7_5) rfl rfl rfl ?_
  refine own_new Y1 hx (pc' := 9) (cl' := 1) (sl' := 11) hZ hown (own_w hw 44 rfl) (own_w hw 2 rfl) (own_w hw 3 rfl) (hb hby d7_6) rfl rfl rfl (by decide) (by decide) (fun T2 h2 b2 Y2 K2 le2 E2 D2 => ?_)
  refine own_dup Y2 hx (pc' := 10) (hb hby d7_9) rfl rfl ?_
  refine own_special Y2 hx (pc' := 13) (W := 1) (cl' := 1) (sl' := 11) (as' := []) (S' := [(.ref b2)]) (a := b2) rfl hZ hown (own_w hw 45 rfl) (own_w hw 5 rfl) (own_w hw 3 rfl) (own_w hw 6 rfl) (by decide) (rm1_1 l Z a0 hw [] b2 h2 n0 (own_sz Y2)) (hb hby d7_10) rfl (by rw [hml]; rfl) rfl (lenOf pd___V rfl) rfl (by decide) (by decide) rfl rfl (by decide) (by decide) own_Same.sz (own_fixS (S2 := [(.ref b2)]) rfl (fun T3 Y3 => ?_))
  refine own_astore Y3 hx (pc' := 15) (Ls' := #[.val (.ref a1), .val (.ref a2), .val (.int (0 : Int32)), .val (.ref a3), .val (.ref b2), .unset, .unset]) (hb hby d7_13) rfl rfl rfl ?_
  refine own_aload Y3 hx (pc' := 17) (hb hby d7_15) rfl rfl rfl ?_
  refine own_aloadN Y3 hx (pc' := 18) (hb hby d7_17) rfl rfl rfl ?_
  have F4 := (own_F (v := .null) P2 K2 own_nin0)
  refine own_getF Y3 hx (pc' := 21) (v := .null) hZ hown (Or.inr (own_w hw 62 rfl)) Via.refl F4 (hb hby d7_18) rfl (fun T5 Y5 => ?_)
  refine own_putF Y5 hx (pc' := 24) hZ hown (Or.inr (own_w hw 64 rfl)) Via.refl (D2 (Or.inl (own_w hw 65 rfl)) (ty := (.object zs2)) (by decide)) E2 (Or.inl (own_w hw 65 rfl)) (own_w hw 2 rfl) (ty := (.object zs2)) (by decide) rfl rfl (Nat.le_trans Z0 le2) (hb hby d7_21) rfl (fun T6 h6 Y6 K6 F6 => ?_)
  refine own_aload Y6 hx (pc' := 26) (hb hby d7_24) rfl rfl rfl ?_
  refine own_aloadN Y6 hx (pc' := 27) (hb hby d7_26) rfl rfl rfl ?_
  have D7 : a3 ≠ b2 := (Nat.ne_of_lt (Nat.lt_of_lt_of_le P4.lt le2))
  have F8 := (own_F (v := .null) (own_F (v := .null) P3 K2 own_nin0) K6 (own_nl D7 own_nin0))
  refine own_getF Y6 hx (pc' := 30) (v := .null) hZ hown (Or.inr (own_w hw 66 rfl)) Via.refl F8 (hb hby d7_27) rfl (fun T9 Y9 => ?_)
  have F10 := (own_F (v := .null) (D2 (Or.inl (own_w hw 69 rfl)) (ty := (.object zs2)) (by decide)) K6 (own_nr (sl_4 hw) own_nin0))
  have F11 := (own_E E2 K6)
  refine own_putF Y9 hx (pc' := 33) hZ hown (Or.inr (own_w hw 68 rfl)) Via.refl F10 F11 (Or.inl (own_w hw 69 rfl)) (own_w hw 2 rfl) (ty := (.object zs2)) (by decide) rfl rfl (Nat.le_trans Z0 le2) (hb hby d7_30) rfl (fun T12 h12 Y12 K12 F12 => ?_)
  refine own_aload Y12 hx (pc' := 35) (hb hby d7_33) rfl rfl rfl ?_
  refine own_aloadN Y12 hx (pc' := 36) (hb hby d7_35) rfl rfl rfl ?_
  have F13 := (own_F (v := .null) (own_F (v := .null) (own_F (v := .null) P5 K2 own_nin0) K6 (own_nl D7 own_nin0)) K12 (own_nl D7 own_nin0))
  refine own_getF Y12 hx (pc' := 39) (v := .null) hZ hown (Or.inr (own_w hw 70 rfl)) Via.refl F13 (hb hby d7_36) rfl (fun T14 Y14 => ?_)
  have F15 := (own_F (v := .null) (own_F (v := .null) (D2 (Or.inl (own_w hw 50 rfl)) (ty := (.object zs0)) (by decide)) K6 (own_nr (sl_5 hw) own_nin0)) K12 (own_nr (sl_6 hw) own_nin0))
  have F16 := (own_E F11 K12)
  refine own_putF Y14 hx (pc' := 42) hZ hown (Or.inr (own_w hw 49 rfl)) Via.refl F15 F16 (Or.inl (own_w hw 50 rfl)) (own_w hw 2 rfl) (ty := (.object zs0)) (by decide) rfl rfl (Nat.le_trans Z0 le2) (hb hby d7_39) rfl (fun T17 h17 Y17 K17 F17 => ?_)
  refine own_aload Y17 hx (pc' := 44) (hb hby d7_42) rfl rfl rfl ?_
  refine own_aloadN Y17 hx (pc' := 45) (hb hby d7_44) rfl rfl rfl ?_
  have F18 := (own_F (v := .null) (own_F (v := .null) (own_F (v := .null) (own_F (v := .null) P6 K2 own_nin0) K6 (own_nl D7 own_nin0)) K12 (own_nl D7 own_nin0)) K17 (own_nl D7 own_nin0))
  refine own_getF Y17 hx (pc' := 48) (v := .null) hZ hown (Or.inr (own_w hw 72 rfl)) Via.refl F18 (hb hby d7_45) rfl (fun T19 Y19 => ?_)
  have F20 := (own_F (v := .null) (own_F (v := .null) (own_F (v := .null) (D2 (Or.inl (own_w hw 75 rfl)) (ty := (.object zs0)) (by decide)) K6 (own_nr (sl_7 hw) own_nin0)) K12 (own_nr (sl_8 hw) own_nin0)) K17 (own_nr (sl_9 hw) own_nin0))
  have F21 := (own_E F16 K17)
  refine own_putF Y19 hx (pc' := 51) hZ hown (Or.inr (own_w hw 74 rfl)) Via.refl F20 F21 (Or.inl (own_w hw 75 rfl)) (own_w hw 2 rfl) (ty := (.object zs0)) (by decide) rfl rfl (Nat.le_trans Z0 le2) (hb hby d7_48) rfl (fun T22 h22 Y22 K22 F22 => ?_)
  refine own_aloadN Y22 hx (pc' := 52) (hb hby d7_51) rfl rfl rfl ?_
  refine own_aconstNull Y22 hx (pc' := 53) (hb hby d7_52) rfl ?_
  have F23 := (own_F (v := .null) (own_F (v := .null) F13 K17 (own_nl D7 own_nin0)) K22 (own_nl D7 own_nin0))
  have F24 := (own_E (own_E (own_E (own_E (own_E P4 K2) K6) K12) K17) K22)
  refine own_putF Y22 hx (pc' := 56) hZ hown (Or.inr (own_w hw 70 rfl)) Via.refl F23 F24 (Or.inl (own_w hw 71 rfl)) (own_w hw 2 rfl) (ty := (.object zs0)) (by decide) rfl rfl P7 (hb hby d7_53) rfl (fun T25 h25 Y25 K25 F25 => ?_)
  refine own_aloadN Y25 hx (pc' := 57) (hb hby d7_56) rfl rfl rfl ?_
  refine own_aconstNull Y25 hx (pc' := 58) (hb hby d7_57) rfl ?_
  have F26 := (own_F (v := .null) (own_F (v := .null) F18 K22 (own_nl D7 own_nin0)) K25 (own_nr (sl_10 hw) own_nin0))
  have F27 := (own_E F24 K25)
  refine own_putF Y25 hx (pc' := 61) hZ hown (Or.inr (own_w hw 72 rfl)) Via.refl F26 F27 (Or.inl (own_w hw 73 rfl)) (own_w hw 2 rfl) (ty := (.object zs0)) (by decide) rfl rfl P7 (hb hby d7_58) rfl (fun T28 h28 Y28 K28 F28 => ?_)
  refine own_aloadN Y28 hx (pc' := 62) (hb hby d7_61) rfl rfl rfl ?_
  refine own_iconst Y28 hx (pc' := 63) (x := (1 : Int32)) (hb hby d7_62) rfl (by decide) ?_
  have F30 := (own_E F27 K28)
  have F31 := (own_F (v := .null) (own_F (v := .null) (own_F (v := .null) (own_F (v := .null) (own_F (v := .null) (own_F (v := .null) (own_F (v := .null) P8 K2 own_nin0) K6 (own_nl D7 own_nin0)) K12 (own_nl D7 own_nin0)) K17 (own_nl D7 own_nin0)) K22 (own_nl D7 own_nin0)) K25 (own_nr (sl_11 hw) own_nin0)) K28 (own_nr (sl_12 hw) own_nin0))
  have F32 := (own_St (own_St (own_St (own_St (own_St (own_St (own_St P9 K2 own_all0) K6 (own_allS (own_plain E2) own_all0)) K12 (own_allS (own_plain F11) own_all0)) K17 (own_allS (own_plain F16) own_all0)) K22 (own_allS (own_plain F21) own_all0)) K25 (own_allS (own_plain F24) own_all0)) K28 (own_allS (own_plain F27) own_all0))
  refine own_virtual Y28 hx (pc' := 66) (W := 0) (cl' := 1) (sl' := 11) (as' := [(.int (1 : Int32))]) (S' := []) (a := a3) hZ hown (own_w hw 76 rfl) (own_w hw 77 rfl) (notFace_of_selects (args := #[]) (mvT hZ (own_w hw 79 rfl))) (own_w hw 79 rfl) (own_w hw 78 rfl) (own_w hw 3 rfl) (own_w hw 80 rfl) (by decide) F30 (rm9_7 l Z a0 hw [] a3 a4 h28 n0 (own_sz Y28) F31 F32) (hb hby d7_63) rfl (by rw [hml]; rfl) rfl (lenOf pd__I_Ljava_lang_Object_ rfl) rfl (by decide) (by decide) rfl rfl (by decide) (by decide) own_Same.sz (own_fixS (S2 := [.null]) rfl (fun T29 Y29 => ?_))
  refine own_astore Y29 hx (pc' := 68) (Ls' := #[.val (.ref a1), .val (.ref a2), .val (.int (0 : Int32)), .val (.ref a3), .val (.ref b2), .val .null, .unset]) (hb hby d7_66) rfl rfl rfl ?_
  refine own_aloadN Y29 hx (pc' := 69) (hb hby d7_68) rfl rfl rfl ?_
  refine own_iconst Y29 hx (pc' := 70) (x := (1 : Int32)) (hb hby d7_69) rfl (by decide) ?_
  have F34 := (own_F (v := .null) (own_F (v := .null) (own_F (v := .null) (own_F (v := .null) (own_F (v := .null) (own_F (v := .null) (own_F (v := .null) P10 K2 own_nin0) K6 (own_nl D7 own_nin0)) K12 (own_nl D7 own_nin0)) K17 (own_nl D7 own_nin0)) K22 (own_nl D7 own_nin0)) K25 (own_nr (sl_13 hw) own_nin0)) K28 (own_nr (sl_14 hw) own_nin0))
  refine own_virtual Y29 hx (pc' := 73) (W := 0) (cl' := 1) (sl' := 11) (as' := [(.int (1 : Int32))]) (S' := []) (a := a3) hZ hown (own_w hw 88 rfl) (own_w hw 89 rfl) (notFace_of_selects (args := #[]) (mvT hZ (own_w hw 91 rfl))) (own_w hw 91 rfl) (own_w hw 90 rfl) (own_w hw 3 rfl) (own_w hw 92 rfl) (by decide) F30 (rm11_8 l Z a0 hw [] a3 h28 n0 (own_sz Y29) F34) (hb hby d7_70) rfl (by rw [hml]; rfl) rfl (lenOf pd__I_Ljava_lang_Object_ rfl) rfl (by decide) (by decide) rfl rfl (by decide) (by decide) own_Same.sz (own_fixS (S2 := [.null]) rfl (fun T33 Y33 => ?_))
  refine own_astore Y33 hx (pc' := 75) (Ls' := #[.val (.ref a1), .val (.ref a2), .val (.int (0 : Int32)), .val (.ref a3), .val (.ref b2), .val .null, .val .null]) (hb hby d7_73) rfl rfl rfl ?_
  refine own_aloadN Y33 hx (pc' := 76) (hb hby d7_75) rfl rfl rfl ?_
  refine own_aconstNull Y33 hx (pc' := 77) (hb hby d7_76) rfl ?_
  refine own_putF Y33 hx (pc' := 80) hZ hown (Or.inr (own_w hw 95 rfl)) Via.refl F31 F30 (Or.inl (own_w hw 82 rfl)) (own_w hw 2 rfl) (ty := (.object zs2)) (by decide) rfl rfl P7 (hb hby d7_77) rfl (fun T35 h35 Y35 K35 F35 => ?_)
  refine own_aloadN Y35 hx (pc' := 81) (hb hby d7_80) rfl rfl rfl ?_
  refine own_aconstNull Y35 hx (pc' := 82) (hb hby d7_81) rfl ?_
  have F36 := (own_F (v := .null) (own_F (v := .null) (own_F (v := .null) (own_F (v := .null) (own_F (v := .null) (own_F (v := .null) (own_F (v := .null) F4 K6 (own_nl D7 own_nin0)) K12 (own_nl D7 own_nin0)) K17 (own_nl D7 own_nin0)) K22 (own_nl D7 own_nin0)) K25 (own_nr (sl_15 hw) own_nin0)) K28 (own_nr (sl_16 hw) own_nin0)) K35 (own_nr (sl_17 hw) own_nin0))
  have F37 := (own_E F30 K35)
  refine own_putF Y35 hx (pc' := 85) hZ hown (Or.inr (own_w hw 62 rfl)) Via.refl F36 F37 (Or.inl (own_w hw 63 rfl)) (own_w hw 2 rfl) (ty := (.object zs2)) (by decide) rfl rfl P7 (hb hby d7_82) rfl (fun T38 h38 Y38 K38 F38 => ?_)
  refine own_aloadN Y38 hx (pc' := 86) (hb hby d7_85) rfl rfl rfl ?_
  refine own_aconstNull Y38 hx (pc' := 87) (hb hby d7_86) rfl ?_
  have F39 := (own_F (v := .null) (own_F (v := .null) F34 K35 (own_nr (sl_18 hw) own_nin0)) K38 (own_nr (sl_19 hw) own_nin0))
  have F40 := (own_E F37 K38)
  refine own_putF Y38 hx (pc' := 90) hZ hown (Or.inr (own_w hw 96 rfl)) Via.refl F39 F40 (Or.inl (own_w hw 94 rfl)) (own_w hw 2 rfl) (ty := (.object zs2)) (by decide) rfl rfl P7 (hb hby d7_87) rfl (fun T41 h41 Y41 K41 F41 => ?_)
  refine own_aloadN Y41 hx (pc' := 91) (hb hby d7_90) rfl rfl rfl ?_
  refine own_aconstNull Y41 hx (pc' := 92) (hb hby d7_91) rfl ?_
  have F42 := (own_F (v := .null) (own_F (v := .null) (own_F (v := .null) (own_F (v := .null) (own_F (v := .null) (own_F (v := .null) (own_F (v := .null) (own_F (v := .null) F8 K12 (own_nl D7 own_nin0)) K17 (own_nl D7 own_nin0)) K22 (own_nl D7 own_nin0)) K25 (own_nr (sl_20 hw) own_nin0)) K28 (own_nr (sl_21 hw) own_nin0)) K35 (own_nr (sl_22 hw) own_nin0)) K38 (own_nr (sl_23 hw) own_nin0)) K41 (own_nr (sl_24 hw) own_nin0))
  have F43 := (own_E F40 K41)
  refine own_putF Y41 hx (pc' := 95) hZ hown (Or.inr (own_w hw 66 rfl)) Via.refl F42 F43 (Or.inl (own_w hw 67 rfl)) (own_w hw 2 rfl) (ty := (.object zs2)) (by decide) rfl rfl P7 (hb hby d7_92) rfl (fun T44 h44 Y44 K44 F44 => ?_)
  refine own_aloadN Y44 hx (pc' := 96) (hb hby d7_95) rfl rfl rfl ?_
  refine own_iloadN Y44 hx (pc' := 97) (hb hby d7_96) rfl rfl ?_
  refine own_aload Y44 hx (pc' := 99) (hb hby d7_97) rfl rfl rfl ?_
  refine own_aload Y44 hx (pc' := 101) (hb hby d7_99) rfl rfl rfl ?_
  refine own_iloadN Y44 hx (pc' := 102) (hb hby d7_101) rfl rfl ?_
  refine own_iconst Y44 hx (pc' := 103) (x := (1 : Int32)) (hb hby d7_102) rfl (by decide) ?_
  refine own_iadd Y44 hx (pc' := 104) (hb hby d7_103) rfl (z := (1 : Int32)) (by decide) ?_
  refine own_aload Y44 hx (pc' := 106) (hb hby d7_104) rfl rfl rfl ?_
  have F46 := (own_E (own_E (own_E (own_E (own_E (own_E (own_E (own_E (own_E (own_E (own_E P0 K2) K6) K12) K17) K22) K25) K28) K35) K38) K41) K44)
  have F47 := (own_St (own_St (own_St (own_St F32 K35 (own_allS (own_plain F30) own_all0)) K38 (own_allS (own_plain F37) own_all0)) K41 (own_allS (own_plain F40) own_all0)) K44 (own_allS (own_plain F43) own_all0))
  have D48 : a2 ≠ b2 := (Nat.ne_of_lt (Nat.lt_of_lt_of_le P0.lt le2))
  have F49 := (own_F (v := (.ref a4)) (own_F (v := (.ref a4)) (own_F (v := (.ref a4)) (own_F (v := (.ref a4)) (own_F (v := (.ref a4)) (own_F (v := (.ref a4)) (own_F (v := (.ref a4)) (own_F (v := (.ref a4)) (own_F (v := (.ref a4)) (own_F (v := (.ref a4)) (own_F (v := (.ref a4)) P11 K2 own_nin0) K6 (own_nl D48 own_nin0)) K12 (own_nl D48 own_nin0)) K17 (own_nl D48 own_nin0)) K22 (own_nl D48 own_nin0)) K25 (own_nl P12 own_nin0)) K28 (own_nl P12 own_nin0)) K35 (own_nl P12 own_nin0)) K38 (own_nl P12 own_nin0)) K41 (own_nl P12 own_nin0)) K44 (own_nl P12 own_nin0))
  have F50 := (own_F (v := .null) (own_F (v := .null) (own_F (v := .null) (own_F (v := .null) (own_F (v := .null) (own_F (v := .null) (own_F (v := .null) (own_F (v := .null) (own_F (v := .null) (own_F (v := .null) (own_F (v := .null) P13 K2 own_nin0) K6 (own_nl D48 own_nin0)) K12 (own_nl D48 own_nin0)) K17 (own_nl D48 own_nin0)) K22 (own_nl D48 own_nin0)) K25 (own_nl P12 own_nin0)) K28 (own_nl P12 own_nin0)) K35 (own_nl P12 own_nin0)) K38 (own_nl P12 own_nin0)) K41 (own_nl P12 own_nin0)) K44 (own_nl P12 own_nin0))
  have F51 := (own_F (v := .null) (own_F (v := .null) (own_F (v := .null) (own_F (v := .null) (own_F (v := .null) (own_F (v := .null) (own_F (v := .null) (own_F (v := .null) (own_F (v := .null) (own_F (v := .null) (own_F (v := .null) P15 K2 own_nin0) K6 (own_nl D48 own_nin0)) K12 (own_nl D48 own_nin0)) K17 (own_nl D48 own_nin0)) K22 (own_nl D48 own_nin0)) K25 (own_nl P12 own_nin0)) K28 (own_nl P12 own_nin0)) K35 (own_nl P12 own_nin0)) K38 (own_nl P12 own_nin0)) K41 (own_nl P12 own_nin0)) K44 (own_nl P12 own_nin0))
  have F52 := (own_F (v := .null) (own_F (v := .null) (own_F (v := .null) (own_F (v := .null) (own_F (v := .null) (own_F (v := .null) (own_F (v := .null) (own_F (v := .null) (own_F (v := .null) (own_F (v := .null) (own_F (v := .null) P16 K2 own_nin0) K6 (own_nl D48 own_nin0)) K12 (own_nl D48 own_nin0)) K17 (own_nl D48 own_nin0)) K22 (own_nl D48 own_nin0)) K25 (own_nl P12 own_nin0)) K28 (own_nl P12 own_nin0)) K35 (own_nl P12 own_nin0)) K38 (own_nl P12 own_nin0)) K41 (own_nl P12 own_nin0)) K44 (own_nl P12 own_nin0))
  have F53 := (own_F (v := (.ref a4)) (own_F (v := (.ref a4)) (own_F (v := (.ref a4)) (own_F (v := (.ref a4)) (own_F (v := (.ref a4)) (own_F (v := (.ref a4)) (own_F (v := (.ref a4)) (own_F (v := (.ref a4)) (own_F (v := (.ref a4)) (own_F (v := (.ref a4)) (own_F (v := (.ref a4)) P17 K2 own_nin0) K6 (own_nl D48 own_nin0)) K12 (own_nl D48 own_nin0)) K17 (own_nl D48 own_nin0)) K22 (own_nl D48 own_nin0)) K25 (own_nl P12 own_nin0)) K28 (own_nl P12 own_nin0)) K35 (own_nl P12 own_nin0)) K38 (own_nl P12 own_nin0)) K41 (own_nl P12 own_nin0)) K44 (own_nl P12 own_nin0))
  have F54 := (own_F (v := .null) (own_F (v := .null) (own_F (v := .null) (own_F (v := .null) (own_F (v := .null) (own_F (v := .null) (own_F (v := .null) (own_F (v := .null) (own_F (v := .null) (own_F (v := .null) (own_F (v := .null) P18 K2 own_nin0) K6 (own_nl D48 own_nin0)) K12 (own_nl D48 own_nin0)) K17 (own_nl D48 own_nin0)) K22 (own_nl D48 own_nin0)) K25 (own_nl P12 own_nin0)) K28 (own_nl P12 own_nin0)) K35 (own_nl P12 own_nin0)) K38 (own_nl P12 own_nin0)) K41 (own_nl P12 own_nin0)) K44 (own_nl P12 own_nin0))
  have F55 := (own_F (v := (.ref a3)) (own_F (v := (.ref a3)) (own_F (v := (.ref a3)) (own_F (v := (.ref a3)) (own_F (v := (.ref a3)) (own_F (v := (.ref a3)) (own_F (v := (.ref a3)) (own_F (v := (.ref a3)) (own_F (v := (.ref a3)) (own_F (v := (.ref a3)) (own_F (v := (.ref a3)) P1 K2 own_nin0) K6 (own_nl D48 own_nin0)) K12 (own_nl D48 own_nin0)) K17 (own_nl D48 own_nin0)) K22 (own_nl D48 own_nin0)) K25 (own_nl P12 own_nin0)) K28 (own_nl P12 own_nin0)) K35 (own_nl P12 own_nin0)) K38 (own_nl P12 own_nin0)) K41 (own_nl P12 own_nin0)) K44 (own_nl P12 own_nin0))
  have F56 := (own_F (v := (.ref a5)) (own_F (v := (.ref a5)) (own_F (v := (.ref a5)) (own_F (v := (.ref a5)) (own_F (v := (.ref a5)) (own_F (v := (.ref a5)) (own_F (v := (.ref a5)) (own_F (v := (.ref a5)) (own_F (v := (.ref a5)) (own_F (v := (.ref a5)) (own_F (v := (.ref a5)) P19 K2 own_nin0) K6 (own_nl D48 own_nin0)) K12 (own_nl D48 own_nin0)) K17 (own_nl D48 own_nin0)) K22 (own_nl D48 own_nin0)) K25 (own_nl P12 own_nin0)) K28 (own_nl P12 own_nin0)) K35 (own_nl P12 own_nin0)) K38 (own_nl P12 own_nin0)) K41 (own_nl P12 own_nin0)) K44 (own_nl P12 own_nin0))
  have F57 := (own_F (v := .null) (own_F (v := .null) (own_F (v := .null) (own_F (v := .null) (own_F (v := .null) (own_F (v := .null) (own_F (v := .null) (own_F (v := .null) (own_F (v := .null) (own_F (v := .null) (own_F (v := .null) P20 K2 own_nin0) K6 (own_nl D48 own_nin0)) K12 (own_nl D48 own_nin0)) K17 (own_nl D48 own_nin0)) K22 (own_nl D48 own_nin0)) K25 (own_nl P12 own_nin0)) K28 (own_nl P12 own_nin0)) K35 (own_nl P12 own_nin0)) K38 (own_nl P12 own_nin0)) K41 (own_nl P12 own_nin0)) K44 (own_nl P12 own_nin0))
  have F58 := (own_F (v := (.ref a6)) (own_F (v := (.ref a6)) (own_F (v := (.ref a6)) (own_F (v := (.ref a6)) (own_F (v := (.ref a6)) (own_F (v := (.ref a6)) (own_F (v := (.ref a6)) (own_F (v := (.ref a6)) (own_F (v := (.ref a6)) (own_F (v := (.ref a6)) (own_F (v := (.ref a6)) P21 K2 own_nin0) K6 (own_nl D48 own_nin0)) K12 (own_nl D48 own_nin0)) K17 (own_nl D48 own_nin0)) K22 (own_nl D48 own_nin0)) K25 (own_nl P12 own_nin0)) K28 (own_nl P12 own_nin0)) K35 (own_nl P12 own_nin0)) K38 (own_nl P12 own_nin0)) K41 (own_nl P12 own_nin0)) K44 (own_nl P12 own_nin0))
  refine own_virtual Y44 hx (pc' := 109) (W := 0) (cl' := 1) (sl' := 11) (as' := [(.int (0 : Int32)), .null, .null, (.int (1 : Int32)), (.ref b2)]) (S' := []) (a := a2) hZ hown (own_w hw 97 rfl) (own_w hw 98 rfl) (notFace_of_selects (args := #[]) (mvT hZ (own_w hw 100 rfl))) (own_w hw 100 rfl) (own_w hw 99 rfl) (own_w hw 3 rfl) (own_w hw 101 rfl) (by decide) F46 (rm12_31 l Z a0 hw [] a2 b2 a4 a3 a5 a6 h44 n0 (own_sz Y44) F46 F47 F49 F50 P14 F51 F52 F53 F54 F55 F56 F57 F58) (hb hby d7_106) rfl (by rw [hml]; rfl) rfl (lenOf pd__ILjava_lang_Object_Ljava_lang_Object_ILcom_example_napkintree_napkintree_balancing_MultiwayTree_Node__V rfl) rfl (by decide) (by decide) rfl rfl (by decide) (by decide) P12_31_sz (own_fixR (S2 := []) rfl (fun T45 h45 Y45 R45 => ?_))
  obtain ⟨K45, G45_0, G45_1, G45_2, G45_3, G45_4, G45_5, G45_6, G45_7, G45_8⟩ := R45
  refine own_aloadN Y45 hx (pc' := 110) (hb hby d7_109) rfl rfl rfl ?_
  refine own_aloadN Y45 hx (pc' := 111) (hb hby d7_110) rfl rfl rfl ?_
  have F59 := (own_St (own_St (own_St (own_St (own_St (own_St (own_St (own_St (own_St (own_St (own_St (own_St P22 K2 own_all0) K6 (own_allS (own_plain E2) own_all0)) K12 (own_allS (own_plain F11) own_all0)) K17 (own_allS (own_plain F16) own_all0)) K22 (own_allS (own_plain F21) own_all0)) K25 (own_allS (own_plain F24) own_all0)) K28 (own_allS (own_plain F27) own_all0)) K35 (own_allS (own_plain F30) own_all0)) K38 (own_allS (own_plain F37) own_all0)) K41 (own_allS (own_plain F40) own_all0)) K44 (own_allS (own_plain F43) own_all0)) K45 (own_allS (own_plain F46) (own_allS (own_plain F46) (own_allS (own_plain F46) (own_allS (own_plain F46) (own_allS (own_plain F46) (own_allS (own_plain F46) (own_allS (own_plain F46) (own_allS (own_plain F46) (own_allS (own_plain F46) own_all0))))))))))
  refine own_getS Y45 hx (pc' := 114) (v := (.ref a7)) hZ hown (host := "") (Or.inl (own_w hw 126 rfl)) Via.refl F59 (hb hby d7_111) rfl (fun T60 Y60 => ?_)
  have F62 := (own_E (own_E (own_E (own_E (own_E (own_E (own_E (own_E (own_E (own_E (own_E (own_E P23 K2) K6) K12) K17) K22) K25) K28) K35) K38) K41) K44) K45)
  have D63 : a1 ≠ b2 := (Nat.ne_of_lt (Nat.lt_of_lt_of_le P23.lt le2))
  have F64 := (own_E (own_E (own_E (own_E (own_E P23 K2) K6) K12) K17) K22)
  have D65 : a1 ≠ a3 := (ne_exa F64 F24 (by decide))
  have F66 := (own_E (own_E (own_E (own_E (own_E (own_E F64 K25) K28) K35) K38) K41) K44)
  have D67 : a1 ≠ a2 := (ne_exa F66 F46 (by decide))
  have F68 := (own_F (v := (.int (0 : Int32))) (own_F (v := (.int (0 : Int32))) (own_F (v := (.int (0 : Int32))) (own_F (v := (.int (0 : Int32))) (own_F (v := (.int (0 : Int32))) (own_F (v := (.int (0 : Int32))) (own_F (v := (.int (0 : Int32))) (own_F (v := (.int (0 : Int32))) (own_F (v := (.int (0 : Int32))) (own_F (v := (.int (0 : Int32))) (own_F (v := (.int (0 : Int32))) (own_F (v := (.int (0 : Int32))) P24 K2 own_nin0) K6 (own_nl D63 own_nin0)) K12 (own_nl D63 own_nin0)) K17 (own_nl D63 own_nin0)) K22 (own_nl D63 own_nin0)) K25 (own_nl D65 own_nin0)) K28 (own_nl D65 own_nin0)) K35 (own_nl D65 own_nin0)) K38 (own_nl D65 own_nin0)) K41 (own_nl D65 own_nin0)) K44 (own_nl D65 own_nin0)) K45 (own_nl D67 (own_nl D67 (own_nl D67 (own_nl D67 (own_nl D67 (own_nl D67 (own_nl D67 (own_nl D67 (own_nl D67 own_nin0))))))))))
  have F69 := (own_St (own_St (own_St (own_St (own_St (own_St (own_St (own_St (own_St (own_St (own_St (own_St P25 K2 own_all0) K6 (own_allS (own_plain E2) own_all0)) K12 (own_allS (own_plain F11) own_all0)) K17 (own_allS (own_plain F16) own_all0)) K22 (own_allS (own_plain F21) own_all0)) K25 (own_allS (own_plain F24) own_all0)) K28 (own_allS (own_plain F27) own_all0)) K35 (own_allS (own_plain F30) own_all0)) K38 (own_allS (own_plain F37) own_all0)) K41 (own_allS (own_plain F40) own_all0)) K44 (own_allS (own_plain F43) own_all0)) K45 (own_allS (own_plain F46) (own_allS (own_plain F46) (own_allS (own_plain F46) (own_allS (own_plain F46) (own_allS (own_plain F46) (own_allS (own_plain F46) (own_allS (own_plain F46) (own_allS (own_plain F46) (own_allS (own_plain F46) own_all0))))))))))
  have F70 := (own_E (own_E (own_E (own_E (own_E (own_E (own_E (own_E (own_E (own_E (own_E (own_E P26 K2) K6) K12) K17) K22) K25) K28) K35) K38) K41) K44) K45)
  have D71 : a7 ≠ b2 := (Nat.ne_of_lt (Nat.lt_of_lt_of_le P26.lt le2))
  have F72 := (own_E (own_E (own_E (own_E (own_E P26 K2) K6) K12) K17) K22)
  have D73 : a7 ≠ a3 := (ne_exa F72 F24 (by decide))
  have F74 := (own_E (own_E (own_E (own_E (own_E (own_E F72 K25) K28) K35) K38) K41) K44)
  have D75 : a7 ≠ a2 := (ne_exa F74 F46 (by decide))
  have F76 := (own_F (v := (.int (1 : Int32))) (own_F (v := (.int (1 : Int32))) (own_F (v := (.int (1 : Int32))) (own_F (v := (.int (1 : Int32))) (own_F (v := (.int (1 : Int32))) (own_F (v := (.int (1 : Int32))) (own_F (v := (.int (1 : Int32))) (own_F (v := (.int (1 : Int32))) (own_F (v := (.int (1 : Int32))) (own_F (v := (.int (1 : Int32))) (own_F (v := (.int (1 : Int32))) (own_F (v := (.int (1 : Int32))) P27 K2 own_nin0) K6 (own_nl D71 own_nin0)) K12 (own_nl D71 own_nin0)) K17 (own_nl D71 own_nin0)) K22 (own_nl D71 own_nin0)) K25 (own_nl D73 own_nin0)) K28 (own_nl D73 own_nin0)) K35 (own_nl D73 own_nin0)) K38 (own_nl D73 own_nin0)) K41 (own_nl D73 own_nin0)) K44 (own_nl D73 own_nin0)) K45 (own_nl D75 (own_nl D75 (own_nl D75 (own_nl D75 (own_nl D75 (own_nl D75 (own_nl D75 (own_nl D75 (own_nl D75 own_nin0))))))))))
  have F77 := (own_F (v := (.int (2 : Int32))) (own_F (v := (.int (2 : Int32))) (own_F (v := (.int (2 : Int32))) (own_F (v := (.int (2 : Int32))) (own_F (v := (.int (2 : Int32))) (own_F (v := (.int (2 : Int32))) (own_F (v := (.int (2 : Int32))) (own_F (v := (.int (2 : Int32))) (own_F (v := (.int (2 : Int32))) (own_F (v := (.int (2 : Int32))) (own_F (v := (.int (2 : Int32))) (own_F (v := (.int (2 : Int32))) P28 K2 own_nin0) K6 (own_nl D7 own_nin0)) K12 (own_nl D7 own_nin0)) K17 (own_nl D7 own_nin0)) K22 (own_nl D7 own_nin0)) K25 (own_nr (sl_94 hw) own_nin0)) K28 (own_nr (sl_95 hw) own_nin0)) K35 (own_nr (sl_96 hw) own_nin0)) K38 (own_nr (sl_97 hw) own_nin0)) K41 (own_nr (sl_98 hw) own_nin0)) K44 (own_nr (sl_99 hw) own_nin0)) K45 (own_nl (Ne.symm P12) (own_nl (Ne.symm P12) (own_nl (Ne.symm P12) (own_nl (Ne.symm P12) (own_nl (Ne.symm P12) (own_nl (Ne.symm P12) (own_nl (Ne.symm P12) (own_nl (Ne.symm P12) (own_nl (Ne.symm P12) own_nin0))))))))))
  have F78 := (own_E (own_E F43 K44) K45)
  refine own_private Y60 hx (pc' := 117) (W := 0) (cl' := 1) (sl' := 11) (as' := [(.ref a3), (.ref a7)]) (S' := []) (a := a1) hZ hown (own_w hw 129 rfl) (own_w hw 130 rfl) (own_selP hZ (Cond.sameMethod_class (own_w hw 134 rfl)) (own_w hw 131 rfl) (own_w hw 130 rfl) (by decide)) (own_w hw 131 rfl) (own_w hw 19 rfl) (own_w hw 132 rfl) (by decide) F62 (rm17_26 l Z a0 hw [] a1 a3 a7 h45 n0 (own_sz Y60) F62 F68 F69 F70 F76 F77 F78 P7) (hb hby d7_114) rfl (by rw [hml]; rfl) rfl (lenOf pd__Lcom_example_napkintree_napkintree_balancing_MultiwayTree_Node_Lcom_example_napkintree_napkintree_balancing_NodeMark__V rfl) rfl (by decide) (by decide) rfl rfl (by decide) (by decide) P17_26_sz (own_fixR (S2 := []) rfl (fun T61 h61 Y61 R61 => ?_))
  obtain ⟨K61, G61_0⟩ := R61
  refine own_aloadN Y61 hx (pc' := 118) (hb hby d7_117) rfl rfl rfl ?_
  refine own_aload Y61 hx (pc' := 120) (hb hby d7_118) rfl rfl rfl ?_
  have F79 := (own_St F59 K61 (own_allS (own_plain F78) own_all0))
  refine own_getS Y61 hx (pc' := 123) (v := (.ref a7)) hZ hown (host := "") (Or.inl (own_w hw 126 rfl)) Via.refl F79 (hb hby d7_120) rfl (fun T80 Y80 => ?_)
  have F82 := (own_E F62 K61)
  have F83 := (own_F (v := (.int (0 : Int32))) F68 K61 (own_nl D65 own_nin0))
  have F84 := (own_St F69 K61 (own_allS (own_plain F78) own_all0))
  have F85 := (own_E F70 K61)
  have F86 := (own_F (v := (.int (1 : Int32))) F76 K61 (own_nl D73 own_nin0))
  have F87 := (own_F (v := (.int (0 : Int32))) (own_F (v := (.int (0 : Int32))) (own_F (v := (.int (0 : Int32))) (own_F (v := (.int (0 : Int32))) (own_F (v := (.int (0 : Int32))) (own_F (v := (.int (0 : Int32))) (own_F (v := (.int (0 : Int32))) (own_F (v := (.int (0 : Int32))) (own_F (v := (.int (0 : Int32))) (own_F (v := (.int (0 : Int32))) (own_F (v := (.int (0 : Int32))) (own_F (v := (.int (0 : Int32))) (D2 (Or.inl (own_w hw 153 rfl)) (ty := .int) (by decide)) K6 (own_nr (sl_100 hw) own_nin0)) K12 (own_nr (sl_101 hw) own_nin0)) K17 (own_nr (sl_102 hw) own_nin0)) K22 (own_nr (sl_103 hw) own_nin0)) K25 (own_nl (Ne.symm D7) own_nin0)) K28 (own_nl (Ne.symm D7) own_nin0)) K35 (own_nl (Ne.symm D7) own_nin0)) K38 (own_nl (Ne.symm D7) own_nin0)) K41 (own_nl (Ne.symm D7) own_nin0)) K44 (own_nl (Ne.symm D7) own_nin0)) K45 (own_nl (Ne.symm D48) (own_nl (Ne.symm D48) (own_nl (Ne.symm D48) (own_nl (Ne.symm D48) (own_nl (Ne.symm D48) (own_nl (Ne.symm D48) (own_nl (Ne.symm D48) (own_nl (Ne.symm D48) (own_nl (Ne.symm D48) own_nin0)))))))))) K61 (own_nl (Ne.symm D7) own_nin0))
  have F88 := (own_E (own_E (own_E (own_E (own_E (own_E (own_E (own_E (own_E F21 K22) K25) K28) K35) K38) K41) K44) K45) K61)
  refine own_private Y80 hx (pc' := 126) (W := 0) (cl' := 1) (sl' := 11) (as' := [(.ref b2), (.ref a7)]) (S' := []) (a := a1) hZ hown (own_w hw 129 rfl) (own_w hw 130 rfl) (own_selP hZ (Cond.sameMethod_class (own_w hw 134 rfl)) (own_w hw 131 rfl) (own_w hw 130 rfl) (by decide)) (own_w hw 131 rfl) (own_w hw 19 rfl) (own_w hw 132 rfl) (by decide) F82 (rm17_16 l Z a0 hw [] a1 b2 a7 h61 n0 (own_sz Y80) F82 F83 F84 F85 F86 F87 F88 (Nat.le_trans Z0 le2)) (hb hby d7_123) rfl (by rw [hml]; rfl) rfl (lenOf pd__Lcom_example_napkintree_napkintree_balancing_MultiwayTree_Node_Lcom_example_napkintree_napkintree_balancing_NodeMark__V rfl) rfl (by decide) (by decide) rfl rfl (by decide) (by decide) P17_16_sz (own_fixR (S2 := []) rfl (fun T81 h81 Y81 R81 => ?_))
  obtain ⟨K81, G81_0⟩ := R81
  refine own_aloadN Y81 hx (pc' := 127) (hb hby d7_126) rfl rfl rfl ?_
  refine own_aloadN Y81 hx (pc' := 128) (hb hby d7_127) rfl rfl rfl ?_
  have F89 := (own_St (own_St (own_St (own_St (own_St (own_St (own_St (own_St (own_St (own_St (own_St (own_St (own_St (own_St P29 K2 own_all0) K6 (own_allS (own_plain E2) own_all0)) K12 (own_allS (own_plain F11) own_all0)) K17 (own_allS (own_plain F16) own_all0)) K22 (own_allS (own_plain F21) own_all0)) K25 (own_allS (own_plain F24) own_all0)) K28 (own_allS (own_plain F27) own_all0)) K35 (own_allS (own_plain F30) own_all0)) K38 (own_allS (own_plain F37) own_all0)) K41 (own_allS (own_plain F40) own_all0)) K44 (own_allS (own_plain F43) own_all0)) K45 (own_allS (own_plain F46) (own_allS (own_plain F46) (own_allS (own_plain F46) (own_allS (own_plain F46) (own_allS (own_plain F46) (own_allS (own_plain F46) (own_allS (own_plain F46) (own_allS (own_plain F46) (own_allS (own_plain F46) own_all0)))))))))) K61 (own_allS (own_plain F78) own_all0)) K81 (own_allS (own_plain F88) own_all0))
  refine own_getS Y81 hx (pc' := 131) (v := (.ref a8)) hZ hown (host := "") (Or.inl (own_w hw 154 rfl)) Via.refl F89 (hb hby d7_128) rfl (fun T90 Y90 => ?_)
  have F92 := (own_E F82 K81)
  have F93 := (own_F (v := (.int (0 : Int32))) F83 K81 (own_nl D63 own_nin0))
  have F94 := (own_St F84 K81 (own_allS (own_plain F88) own_all0))
  have F95 := (own_E (own_E (own_E (own_E (own_E (own_E (own_E (own_E (own_E (own_E (own_E (own_E (own_E (own_E P30 K2) K6) K12) K17) K22) K25) K28) K35) K38) K41) K44) K45) K61) K81)
  have D96 : a8 ≠ b2 := (Nat.ne_of_lt (Nat.lt_of_lt_of_le P30.lt le2))
  have F97 := (own_E (own_E (own_E (own_E (own_E P30 K2) K6) K12) K17) K22)
  have D98 : a8 ≠ a3 := (ne_exa F97 F24 (by decide))
  have F99 := (own_E (own_E (own_E (own_E (own_E (own_E F97 K25) K28) K35) K38) K41) K44)
  have D100 : a8 ≠ a2 := (ne_exa F99 F46 (by decide))
  have F101 := (own_F (v := (.int (0 : Int32))) (own_F (v := (.int (0 : Int32))) (own_F (v := (.int (0 : Int32))) (own_F (v := (.int (0 : Int32))) (own_F (v := (.int (0 : Int32))) (own_F (v := (.int (0 : Int32))) (own_F (v := (.int (0 : Int32))) (own_F (v := (.int (0 : Int32))) (own_F (v := (.int (0 : Int32))) (own_F (v := (.int (0 : Int32))) (own_F (v := (.int (0 : Int32))) (own_F (v := (.int (0 : Int32))) (own_F (v := (.int (0 : Int32))) (own_F (v := (.int (0 : Int32))) P31 K2 own_nin0) K6 (own_nl D96 own_nin0)) K12 (own_nl D96 own_nin0)) K17 (own_nl D96 own_nin0)) K22 (own_nl D96 own_nin0)) K25 (own_nl D98 own_nin0)) K28 (own_nl D98 own_nin0)) K35 (own_nl D98 own_nin0)) K38 (own_nl D98 own_nin0)) K41 (own_nl D98 own_nin0)) K44 (own_nl D98 own_nin0)) K45 (own_nl D100 (own_nl D100 (own_nl D100 (own_nl D100 (own_nl D100 (own_nl D100 (own_nl D100 (own_nl D100 (own_nl D100 own_nin0)))))))))) K61 (own_nl D98 own_nin0)) K81 (own_nl D96 own_nin0))
  have F102 := (own_F (v := (.int (1 : Int32))) (own_F (v := (.int (1 : Int32))) (own_F (v := (.int (1 : Int32))) (own_F (v := (.int (1 : Int32))) (own_F (v := (.int (1 : Int32))) (own_F (v := (.int (1 : Int32))) (own_F (v := (.int (1 : Int32))) (own_F (v := (.int (1 : Int32))) (own_F (v := (.int (1 : Int32))) (own_F (v := (.int (1 : Int32))) (own_F (v := (.int (1 : Int32))) (own_F (v := (.int (1 : Int32))) (own_F (v := (.int (1 : Int32))) (own_F (v := (.int (1 : Int32))) P32 K2 own_nin0) K6 (own_nl D48 own_nin0)) K12 (own_nl D48 own_nin0)) K17 (own_nl D48 own_nin0)) K22 (own_nl D48 own_nin0)) K25 (own_nl P12 own_nin0)) K28 (own_nl P12 own_nin0)) K35 (own_nl P12 own_nin0)) K38 (own_nl P12 own_nin0)) K41 (own_nl P12 own_nin0)) K44 (own_nl P12 own_nin0)) K45 (own_nr (sl_97 hw) (own_nr (sl_99 hw) (own_nr (sl_96 hw) (own_nr (sl_98 hw) (own_nr (sl_100 hw) (own_nr (sl_101 hw) (own_nr (sl_95 hw) (own_nr (sl_94 hw) (own_nr (sl_103 hw) own_nin0)))))))))) K61 (own_nl P12 own_nin0)) K81 (own_nl D48 own_nin0))
  have F103 := (own_E (own_E (own_E F46 K45) K61) K81)
  refine own_private Y90 hx (pc' := 134) (W := 0) (cl' := 1) (sl' := 11) (as' := [(.ref a2), (.ref a8)]) (S' := []) (a := a1) hZ hown (own_w hw 129 rfl) (own_w hw 130 rfl) (own_selP hZ (Cond.sameMethod_class (own_w hw 134 rfl)) (own_w hw 131 rfl) (own_w hw 130 rfl) (by decide)) (own_w hw 131 rfl) (own_w hw 19 rfl) (own_w hw 132 rfl) (by decide) F92 (rm17_32 l Z a0 hw [] a1 a2 a8 h81 n0 (own_sz Y90) F92 F93 F94 F95 F101 F102 F103 P14) (hb hby d7_131) rfl (by rw [hml]; rfl) rfl (lenOf pd__Lcom_example_napkintree_napkintree_balancing_MultiwayTree_Node_Lcom_example_napkintree_napkintree_balancing_NodeMark__V rfl) rfl (by decide) (by decide) rfl rfl (by decide) (by decide) P17_32_sz (own_fixR (S2 := []) rfl (fun T91 h91 Y91 R91 => ?_))
  obtain ⟨K91, G91_0⟩ := R91
  have KC104 : own_Kp h0 h91 [(a3, Jvm.RoadKit.slotOf Z zs0 "child2" zs16), (a3, Jvm.RoadKit.slotOf Z zs0 "child3" zs16), (a3, Jvm.RoadKit.slotOf Z zs0 "key1" zs1), (a3, Jvm.RoadKit.slotOf Z zs0 "key2" zs1), (a3, Jvm.RoadKit.slotOf Z zs0 "value1" zs1), (a3, Jvm.RoadKit.slotOf Z zs0 "value2" zs1), (a2, Jvm.RoadKit.slotOf Z zs0 "key2" zs1), (a2, Jvm.RoadKit.slotOf Z zs0 "value2" zs1), (a2, Jvm.RoadKit.slotOf Z zs0 "key1" zs1), (a2, Jvm.RoadKit.slotOf Z zs0 "value1" zs1), (a2, Jvm.RoadKit.slotOf Z zs0 "key0" zs1), (a2, Jvm.RoadKit.slotOf Z zs0 "value0" zs1), (a2, Jvm.RoadKit.slotOf Z zs0 "child3" zs16), (a2, Jvm.RoadKit.slotOf Z zs0 "child2" zs16), (a2, Jvm.RoadKit.slotOf Z zs0 "child1" zs16), (a3, Jvm.RoadKit.slotOf Z zs0 "mark" "I"), (a2, Jvm.RoadKit.slotOf Z zs0 "mark" "I")] := ((((((((((((((((own_Kp.refl h0 [(a3, Jvm.RoadKit.slotOf Z zs0 "child2" zs16), (a3, Jvm.RoadKit.slotOf Z zs0 "child3" zs16), (a3, Jvm.RoadKit.slotOf Z zs0 "key1" zs1), (a3, Jvm.RoadKit.slotOf Z zs0 "key2" zs1), (a3, Jvm.RoadKit.slotOf Z zs0 "value1" zs1), (a3, Jvm.RoadKit.slotOf Z zs0 "value2" zs1), (a2, Jvm.RoadKit.slotOf Z zs0 "key2" zs1), (a2, Jvm.RoadKit.slotOf Z zs0 "value2" zs1), (a2, Jvm.RoadKit.slotOf Z zs0 "key1" zs1), (a2, Jvm.RoadKit.slotOf Z zs0 "value1" zs1), (a2, Jvm.RoadKit.slotOf Z zs0 "key0" zs1), (a2, Jvm.RoadKit.slotOf Z zs0 "value0" zs1), (a2, Jvm.RoadKit.slotOf Z zs0 "child3" zs16), (a2, Jvm.RoadKit.slotOf Z zs0 "child2" zs16), (a2, Jvm.RoadKit.slotOf Z zs0 "child1" zs16), (a3, Jvm.RoadKit.slotOf Z zs0 "mark" "I"), (a2, Jvm.RoadKit.slotOf Z zs0 "mark" "I")]).trans K2 own_all0).trans K6 (own_allS (Or.inr le2) own_all0)).trans K12 (own_allS (Or.inr le2) own_all0)).trans K17 (own_allS (Or.inr le2) own_all0)).trans K22 (own_allS (Or.inr le2) own_all0)).trans K25 (own_allS (Or.inl (List.mem_of_getElem? (i := 0) rfl)) own_all0)).trans K28 (own_allS (Or.inl (List.mem_of_getElem? (i := 1) rfl)) own_all0)).trans K35 (own_allS (Or.inl (List.mem_of_getElem? (i := 2) rfl)) own_all0)).trans K38 (own_allS (Or.inl (List.mem_of_getElem? (i := 3) rfl)) own_all0)).trans K41 (own_allS (Or.inl (List.mem_of_getElem? (i := 4) rfl)) own_all0)).trans K44 (own_allS (Or.inl (List.mem_of_getElem? (i := 5) rfl)) own_all0)).trans K45 (own_allS (Or.inl (List.mem_of_getElem? (i := 6) rfl)) (own_allS (Or.inl (List.mem_of_getElem? (i := 7) rfl)) (own_allS (Or.inl (List.mem_of_getElem? (i := 8) rfl)) (own_allS (Or.inl (List.mem_of_getElem? (i := 9) rfl)) (own_allS (Or.inl (List.mem_of_getElem? (i := 10) rfl)) (own_allS (Or.inl (List.mem_of_getElem? (i := 11) rfl)) (own_allS (Or.inl (List.mem_of_getElem? (i := 12) rfl)) (own_allS (Or.inl (List.mem_of_getElem? (i := 13) rfl)) (own_allS (Or.inl (List.mem_of_getElem? (i := 14) rfl)) own_all0)))))))))).trans K61 (own_allS (Or.inl (List.mem_of_getElem? (i := 15) rfl)) own_all0)).trans K81 (own_allS (Or.inr le2) own_all0)).trans K91 (own_allS (Or.inl (List.mem_of_getElem? (i := 16) rfl)) own_all0))
  have F105 := (own_F (v := .null) (own_F (v := .null) (own_F (v := .null) (own_F (v := .null) (own_F (v := .null) (own_F (v := .null) (own_F (v := .null) (own_F (v := .null) (own_F (v := .null) F25 K28 (own_nr (sl_77 hw) own_nin0)) K35 (own_nr (sl_61 hw) own_nin0)) K38 (own_nr (sl_59 hw) own_nin0)) K41 (own_nr (sl_62 hw) own_nin0)) K44 (own_nr (sl_60 hw) own_nin0)) K45 (own_nl (Ne.symm P12) (own_nl (Ne.symm P12) (own_nl (Ne.symm P12) (own_nl (Ne.symm P12) (own_nl (Ne.symm P12) (own_nl (Ne.symm P12) (own_nl (Ne.symm P12) (own_nl (Ne.symm P12) (own_nl (Ne.symm P12) own_nin0)))))))))) K61 (own_nr (sl_104 hw) own_nin0)) K81 (own_nl D7 own_nin0)) K91 (own_nl (Ne.symm P12) own_nin0))
  have F106 := (own_F (v := .null) (own_F (v := .null) (own_F (v := .null) (own_F (v := .null) (own_F (v := .null) (own_F (v := .null) (own_F (v := .null) (own_F (v := .null) F28 K35 (own_nr (sl_68 hw) own_nin0)) K38 (own_nr (sl_66 hw) own_nin0)) K41 (own_nr (sl_69 hw) own_nin0)) K44 (own_nr (sl_67 hw) own_nin0)) K45 (own_nl (Ne.symm P12) (own_nl (Ne.symm P12) (own_nl (Ne.symm P12) (own_nl (Ne.symm P12) (own_nl (Ne.symm P12) (own_nl (Ne.symm P12) (own_nl (Ne.symm P12) (own_nl (Ne.symm P12) (own_nl (Ne.symm P12) own_nin0)))))))))) K61 (own_nr (sl_105 hw) own_nin0)) K81 (own_nl D7 own_nin0)) K91 (own_nl (Ne.symm P12) own_nin0))
  have F107 := (own_F (v := .null) (own_F (v := .null) (own_F (v := .null) (own_F (v := .null) (own_F (v := .null) (own_F (v := .null) (own_F (v := .null) F35 K38 (own_nr (sl_32 hw) own_nin0)) K41 (own_nr (sl_48 hw) own_nin0)) K44 (own_nr (sl_33 hw) own_nin0)) K45 (own_nl (Ne.symm P12) (own_nl (Ne.symm P12) (own_nl (Ne.symm P12) (own_nl (Ne.symm P12) (own_nl (Ne.symm P12) (own_nl (Ne.symm P12) (own_nl (Ne.symm P12) (own_nl (Ne.symm P12) (own_nl (Ne.symm P12) own_nin0)))))))))) K61 (own_nr (sl_106 hw) own_nin0)) K81 (own_nl D7 own_nin0)) K91 (own_nl (Ne.symm P12) own_nin0))
  have F108 := (own_F (v := .null) (own_F (v := .null) (own_F (v := .null) (own_F (v := .null) (own_F (v := .null) (own_F (v := .null) F38 K41 (own_nr (sl_43 hw) own_nin0)) K44 (own_nr (sl_42 hw) own_nin0)) K45 (own_nl (Ne.symm P12) (own_nl (Ne.symm P12) (own_nl (Ne.symm P12) (own_nl (Ne.symm P12) (own_nl (Ne.symm P12) (own_nl (Ne.symm P12) (own_nl (Ne.symm P12) (own_nl (Ne.symm P12) (own_nl (Ne.symm P12) own_nin0)))))))))) K61 (own_nr (sl_107 hw) own_nin0)) K81 (own_nl D7 own_nin0)) K91 (own_nl (Ne.symm P12) own_nin0))
  have F109 := (own_F (v := .null) (own_F (v := .null) (own_F (v := .null) (own_F (v := .null) (own_F (v := .null) F41 K44 (own_nr (sl_38 hw) own_nin0)) K45 (own_nl (Ne.symm P12) (own_nl (Ne.symm P12) (own_nl (Ne.symm P12) (own_nl (Ne.symm P12) (own_nl (Ne.symm P12) (own_nl (Ne.symm P12) (own_nl (Ne.symm P12) (own_nl (Ne.symm P12) (own_nl (Ne.symm P12) own_nin0)))))))))) K61 (own_nr (sl_108 hw) own_nin0)) K81 (own_nl D7 own_nin0)) K91 (own_nl (Ne.symm P12) own_nin0))
  have F110 := (own_F (v := .null) (own_F (v := .null) (own_F (v := .null) (own_F (v := .null) F44 K45 (own_nl (Ne.symm P12) (own_nl (Ne.symm P12) (own_nl (Ne.symm P12) (own_nl (Ne.symm P12) (own_nl (Ne.symm P12) (own_nl (Ne.symm P12) (own_nl (Ne.symm P12) (own_nl (Ne.symm P12) (own_nl (Ne.symm P12) own_nin0)))))))))) K61 (own_nr (sl_109 hw) own_nin0)) K81 (own_nl D7 own_nin0)) K91 (own_nl (Ne.symm P12) own_nin0))
  have F111 := (own_F (v := (.ref a4)) (own_F (v := (.ref a4)) (own_F (v := (.ref a4)) G45_0 K61 (own_nl P12 own_nin0)) K81 (own_nl D48 own_nin0)) K91 (own_nr (sl_107 hw) own_nin0))
  have F112 := (own_F (v := .null) (own_F (v := .null) (own_F (v := .null) G45_1 K61 (own_nl P12 own_nin0)) K81 (own_nl D48 own_nin0)) K91 (own_nr (sl_109 hw) own_nin0))
  have F113 := (own_F (v := (.ref a4)) (own_F (v := (.ref a4)) (own_F (v := (.ref a4)) G45_2 K61 (own_nl P12 own_nin0)) K81 (own_nl D48 own_nin0)) K91 (own_nr (sl_106 hw) own_nin0))
  have F114 := (own_F (v := .null) (own_F (v := .null) (own_F (v := .null) G45_3 K61 (own_nl P12 own_nin0)) K81 (own_nl D48 own_nin0)) K91 (own_nr (sl_108 hw) own_nin0))
  have F115 := (own_F (v := (.ref a4)) (own_F (v := (.ref a4)) (own_F (v := (.ref a4)) G45_4 K61 (own_nl P12 own_nin0)) K81 (own_nl D48 own_nin0)) K91 (own_nr (sl_110 hw) own_nin0))
  have F116 := (own_F (v := .null) (own_F (v := .null) (own_F (v := .null) G45_5 K61 (own_nl P12 own_nin0)) K81 (own_nl D48 own_nin0)) K91 (own_nr (sl_111 hw) own_nin0))
  have F117 := (own_F (v := (.ref a5)) (own_F (v := (.ref a5)) (own_F (v := (.ref a5)) G45_6 K61 (own_nl P12 own_nin0)) K81 (own_nl D48 own_nin0)) K91 (own_nr (sl_105 hw) own_nin0))
  have F118 := (own_F (v := (.ref a6)) (own_F (v := (.ref a6)) (own_F (v := (.ref a6)) G45_7 K61 (own_nl P12 own_nin0)) K81 (own_nl D48 own_nin0)) K91 (own_nr (sl_104 hw) own_nin0))
  have F119 := (own_F (v := (.ref b2)) (own_F (v := (.ref b2)) (own_F (v := (.ref b2)) G45_8 K61 (own_nl P12 own_nin0)) K81 (own_nl D48 own_nin0)) K91 (own_nr (sl_112 hw) own_nin0))
  have F120 := (own_F (v := (.int (2 : Int32))) (own_F (v := (.int (2 : Int32))) G61_0 K81 (own_nl D7 own_nin0)) K91 (own_nl (Ne.symm P12) own_nin0))
  have F121 := (own_E (own_E F88 K81) K91)
  have F122 := (own_F (v := .null) (own_F (v := .null) (own_F (v := .null) (own_F (v := .null) (own_F (v := .null) (own_F (v := .null) (own_F (v := .null) (own_F (v := .null) (own_F (v := .null) (own_F (v := .null) (own_F (v := .null) F17 K22 (own_nr (sl_113 hw) own_nin0)) K25 (own_nl (Ne.symm D7) own_nin0)) K28 (own_nl (Ne.symm D7) own_nin0)) K35 (own_nl (Ne.symm D7) own_nin0)) K38 (own_nl (Ne.symm D7) own_nin0)) K41 (own_nl (Ne.symm D7) own_nin0)) K44 (own_nl (Ne.symm D7) own_nin0)) K45 (own_nl (Ne.symm D48) (own_nl (Ne.symm D48) (own_nl (Ne.symm D48) (own_nl (Ne.symm D48) (own_nl (Ne.symm D48) (own_nl (Ne.symm D48) (own_nl (Ne.symm D48) (own_nl (Ne.symm D48) (own_nl (Ne.symm D48) own_nin0)))))))))) K61 (own_nl (Ne.symm D7) own_nin0)) K81 (own_nr (sl_114 hw) own_nin0)) K91 (own_nl (Ne.symm D48) own_nin0))
  have F123 := (own_F (v := .null) (own_F (v := .null) (own_F (v := .null) (own_F (v := .null) (own_F (v := .null) (own_F (v := .null) (own_F (v := .null) (own_F (v := .null) (own_F (v := .null) (own_F (v := .null) (own_F (v := .null) (own_F (v := .null) (own_F (v := .null) (own_F (v := .null) (D2 (Or.inl (own_w hw 63 rfl)) (ty := (.object zs2)) (by decide)) K6 (own_nr (sl_44 hw) own_nin0)) K12 (own_nr (sl_45 hw) own_nin0)) K17 (own_nr (sl_26 hw) own_nin0)) K22 (own_nr (sl_81 hw) own_nin0)) K25 (own_nl (Ne.symm D7) own_nin0)) K28 (own_nl (Ne.symm D7) own_nin0)) K35 (own_nl (Ne.symm D7) own_nin0)) K38 (own_nl (Ne.symm D7) own_nin0)) K41 (own_nl (Ne.symm D7) own_nin0)) K44 (own_nl (Ne.symm D7) own_nin0)) K45 (own_nl (Ne.symm D48) (own_nl (Ne.symm D48) (own_nl (Ne.symm D48) (own_nl (Ne.symm D48) (own_nl (Ne.symm D48) (own_nl (Ne.symm D48) (own_nl (Ne.symm D48) (own_nl (Ne.symm D48) (own_nl (Ne.symm D48) own_nin0)))))))))) K61 (own_nl (Ne.symm D7) own_nin0)) K81 (own_nr (sl_107 hw) own_nin0)) K91 (own_nl (Ne.symm D48) own_nin0))
  have F124 := (own_F (v := .null) (own_F (v := .null) (own_F (v := .null) (own_F (v := .null) (own_F (v := .null) (own_F (v := .null) (own_F (v := .null) (own_F (v := .null) (own_F (v := .null) (own_F (v := .null) (own_F (v := .null) (own_F (v := .null) (own_F (v := .null) F6 K12 (own_nr (sl_53 hw) own_nin0)) K17 (own_nr (sl_29 hw) own_nin0)) K22 (own_nr (sl_87 hw) own_nin0)) K25 (own_nl (Ne.symm D7) own_nin0)) K28 (own_nl (Ne.symm D7) own_nin0)) K35 (own_nl (Ne.symm D7) own_nin0)) K38 (own_nl (Ne.symm D7) own_nin0)) K41 (own_nl (Ne.symm D7) own_nin0)) K44 (own_nl (Ne.symm D7) own_nin0)) K45 (own_nl (Ne.symm D48) (own_nl (Ne.symm D48) (own_nl (Ne.symm D48) (own_nl (Ne.symm D48) (own_nl (Ne.symm D48) (own_nl (Ne.symm D48) (own_nl (Ne.symm D48) (own_nl (Ne.symm D48) (own_nl (Ne.symm D48) own_nin0)))))))))) K61 (own_nl (Ne.symm D7) own_nin0)) K81 (own_nr (sl_110 hw) own_nin0)) K91 (own_nl (Ne.symm D48) own_nin0))
  have F125 := (own_F (v := .null) (own_F (v := .null) (own_F (v := .null) (own_F (v := .null) (own_F (v := .null) (own_F (v := .null) (own_F (v := .null) (own_F (v := .null) (own_F (v := .null) (own_F (v := .null) (own_F (v := .null) (own_F (v := .null) (own_F (v := .null) (own_F (v := .null) (D2 (Or.inl (own_w hw 67 rfl)) (ty := (.object zs2)) (by decide)) K6 (own_nr (sl_46 hw) own_nin0)) K12 (own_nr (sl_47 hw) own_nin0)) K17 (own_nr (sl_28 hw) own_nin0)) K22 (own_nr (sl_82 hw) own_nin0)) K25 (own_nl (Ne.symm D7) own_nin0)) K28 (own_nl (Ne.symm D7) own_nin0)) K35 (own_nl (Ne.symm D7) own_nin0)) K38 (own_nl (Ne.symm D7) own_nin0)) K41 (own_nl (Ne.symm D7) own_nin0)) K44 (own_nl (Ne.symm D7) own_nin0)) K45 (own_nl (Ne.symm D48) (own_nl (Ne.symm D48) (own_nl (Ne.symm D48) (own_nl (Ne.symm D48) (own_nl (Ne.symm D48) (own_nl (Ne.symm D48) (own_nl (Ne.symm D48) (own_nl (Ne.symm D48) (own_nl (Ne.symm D48) own_nin0)))))))))) K61 (own_nl (Ne.symm D7) own_nin0)) K81 (own_nr (sl_109 hw) own_nin0)) K91 (own_nl (Ne.symm D48) own_nin0))
  have F126 := (own_F (v := .null) (own_F (v := .null) (own_F (v := .null) (own_F (v := .null) (own_F (v := .null) (own_F (v := .null) (own_F (v := .null) (own_F (v := .null) (own_F (v := .null) (own_F (v := .null) (own_F (v := .null) (own_F (v := .null) F12 K17 (own_nr (sl_34 hw) own_nin0)) K22 (own_nr (sl_90 hw) own_nin0)) K25 (own_nl (Ne.symm D7) own_nin0)) K28 (own_nl (Ne.symm D7) own_nin0)) K35 (own_nl (Ne.symm D7) own_nin0)) K38 (own_nl (Ne.symm D7) own_nin0)) K41 (own_nl (Ne.symm D7) own_nin0)) K44 (own_nl (Ne.symm D7) own_nin0)) K45 (own_nl (Ne.symm D48) (own_nl (Ne.symm D48) (own_nl (Ne.symm D48) (own_nl (Ne.symm D48) (own_nl (Ne.symm D48) (own_nl (Ne.symm D48) (own_nl (Ne.symm D48) (own_nl (Ne.symm D48) (own_nl (Ne.symm D48) own_nin0)))))))))) K61 (own_nl (Ne.symm D7) own_nin0)) K81 (own_nr (sl_111 hw) own_nin0)) K91 (own_nl (Ne.symm D48) own_nin0))
  have F127 := (own_F (v := .null) (own_F (v := .null) (own_F (v := .null) (own_F (v := .null) (own_F (v := .null) (own_F (v := .null) (own_F (v := .null) (own_F (v := .null) (own_F (v := .null) (own_F (v := .null) (own_F (v := .null) (own_F (v := .null) (own_F (v := .null) (own_F (v := .null) (D2 (Or.inl (own_w hw 71 rfl)) (ty := (.object zs0)) (by decide)) K6 (own_nr (sl_63 hw) own_nin0)) K12 (own_nr (sl_64 hw) own_nin0)) K17 (own_nr (sl_58 hw) own_nin0)) K22 (own_nr (sl_80 hw) own_nin0)) K25 (own_nl (Ne.symm D7) own_nin0)) K28 (own_nl (Ne.symm D7) own_nin0)) K35 (own_nl (Ne.symm D7) own_nin0)) K38 (own_nl (Ne.symm D7) own_nin0)) K41 (own_nl (Ne.symm D7) own_nin0)) K44 (own_nl (Ne.symm D7) own_nin0)) K45 (own_nl (Ne.symm D48) (own_nl (Ne.symm D48) (own_nl (Ne.symm D48) (own_nl (Ne.symm D48) (own_nl (Ne.symm D48) (own_nl (Ne.symm D48) (own_nl (Ne.symm D48) (own_nl (Ne.symm D48) (own_nl (Ne.symm D48) own_nin0)))))))))) K61 (own_nl (Ne.symm D7) own_nin0)) K81 (own_nr (sl_104 hw) own_nin0)) K91 (own_nl (Ne.symm D48) own_nin0))
  have F128 := (own_F (v := .null) (own_F (v := .null) (own_F (v := .null) (own_F (v := .null) (own_F (v := .null) (own_F (v := .null) (own_F (v := .null) (own_F (v := .null) (own_F (v := .null) (own_F (v := .null) (own_F (v := .null) (own_F (v := .null) (own_F (v := .null) (own_F (v := .null) (D2 (Or.inl (own_w hw 73 rfl)) (ty := (.object zs0)) (by decide)) K6 (own_nr (sl_70 hw) own_nin0)) K12 (own_nr (sl_71 hw) own_nin0)) K17 (own_nr (sl_65 hw) own_nin0)) K22 (own_nr (sl_79 hw) own_nin0)) K25 (own_nl (Ne.symm D7) own_nin0)) K28 (own_nl (Ne.symm D7) own_nin0)) K35 (own_nl (Ne.symm D7) own_nin0)) K38 (own_nl (Ne.symm D7) own_nin0)) K41 (own_nl (Ne.symm D7) own_nin0)) K44 (own_nl (Ne.symm D7) own_nin0)) K45 (own_nl (Ne.symm D48) (own_nl (Ne.symm D48) (own_nl (Ne.symm D48) (own_nl (Ne.symm D48) (own_nl (Ne.symm D48) (own_nl (Ne.symm D48) (own_nl (Ne.symm D48) (own_nl (Ne.symm D48) (own_nl (Ne.symm D48) own_nin0)))))))))) K61 (own_nl (Ne.symm D7) own_nin0)) K81 (own_nr (sl_105 hw) own_nin0)) K91 (own_nl (Ne.symm D48) own_nin0))
  have F129 := (own_F (v := .null) (own_F (v := .null) (own_F (v := .null) (own_F (v := .null) (own_F (v := .null) (own_F (v := .null) (own_F (v := .null) (own_F (v := .null) (own_F (v := .null) (own_F (v := .null) F22 K25 (own_nl (Ne.symm D7) own_nin0)) K28 (own_nl (Ne.symm D7) own_nin0)) K35 (own_nl (Ne.symm D7) own_nin0)) K38 (own_nl (Ne.symm D7) own_nin0)) K41 (own_nl (Ne.symm D7) own_nin0)) K44 (own_nl (Ne.symm D7) own_nin0)) K45 (own_nl (Ne.symm D48) (own_nl (Ne.symm D48) (own_nl (Ne.symm D48) (own_nl (Ne.symm D48) (own_nl (Ne.symm D48) (own_nl (Ne.symm D48) (own_nl (Ne.symm D48) (own_nl (Ne.symm D48) (own_nl (Ne.symm D48) own_nin0)))))))))) K61 (own_nl (Ne.symm D7) own_nin0)) K81 (own_nr (sl_112 hw) own_nin0)) K91 (own_nl (Ne.symm D48) own_nin0))
  have F130 := (own_F (v := .null) (own_F (v := .null) (own_F (v := .null) (own_F (v := .null) (own_F (v := .null) (own_F (v := .null) (own_F (v := .null) (own_F (v := .null) (own_F (v := .null) (own_F (v := .null) (own_F (v := .null) (own_F (v := .null) (own_F (v := .null) (own_F (v := .null) (D2 (Or.inl (own_w hw 82 rfl)) (ty := (.object zs2)) (by decide)) K6 (own_nr (sl_49 hw) own_nin0)) K12 (own_nr (sl_50 hw) own_nin0)) K17 (own_nr (sl_25 hw) own_nin0)) K22 (own_nr (sl_83 hw) own_nin0)) K25 (own_nl (Ne.symm D7) own_nin0)) K28 (own_nl (Ne.symm D7) own_nin0)) K35 (own_nl (Ne.symm D7) own_nin0)) K38 (own_nl (Ne.symm D7) own_nin0)) K41 (own_nl (Ne.symm D7) own_nin0)) K44 (own_nl (Ne.symm D7) own_nin0)) K45 (own_nl (Ne.symm D48) (own_nl (Ne.symm D48) (own_nl (Ne.symm D48) (own_nl (Ne.symm D48) (own_nl (Ne.symm D48) (own_nl (Ne.symm D48) (own_nl (Ne.symm D48) (own_nl (Ne.symm D48) (own_nl (Ne.symm D48) own_nin0)))))))))) K61 (own_nl (Ne.symm D7) own_nin0)) K81 (own_nr (sl_106 hw) own_nin0)) K91 (own_nl (Ne.symm D48) own_nin0))
  have F131 := (own_F (v := .null) (own_F (v := .null) (own_F (v := .null) (own_F (v := .null) (own_F (v := .null) (own_F (v := .null) (own_F (v := .null) (own_F (v := .null) (own_F (v := .null) (own_F (v := .null) (own_F (v := .null) (own_F (v := .null) (own_F (v := .null) (own_F (v := .null) (D2 (Or.inl (own_w hw 94 rfl)) (ty := (.object zs2)) (by decide)) K6 (own_nr (sl_51 hw) own_nin0)) K12 (own_nr (sl_52 hw) own_nin0)) K17 (own_nr (sl_27 hw) own_nin0)) K22 (own_nr (sl_84 hw) own_nin0)) K25 (own_nl (Ne.symm D7) own_nin0)) K28 (own_nl (Ne.symm D7) own_nin0)) K35 (own_nl (Ne.symm D7) own_nin0)) K38 (own_nl (Ne.symm D7) own_nin0)) K41 (own_nl (Ne.symm D7) own_nin0)) K44 (own_nl (Ne.symm D7) own_nin0)) K45 (own_nl (Ne.symm D48) (own_nl (Ne.symm D48) (own_nl (Ne.symm D48) (own_nl (Ne.symm D48) (own_nl (Ne.symm D48) (own_nl (Ne.symm D48) (own_nl (Ne.symm D48) (own_nl (Ne.symm D48) (own_nl (Ne.symm D48) own_nin0)))))))))) K61 (own_nl (Ne.symm D7) own_nin0)) K81 (own_nr (sl_108 hw) own_nin0)) K91 (own_nl (Ne.symm D48) own_nin0))
  have F132 := (own_F (v := (.int (2 : Int32))) G81_0 K91 (own_nl (Ne.symm D48) own_nin0))
  exact own_ret0 Y91 hx hlk Bd.returns (hb hby d7_134) ⟨rfl, b2, KC104, le2, F105, F106, F107, F108, F109, F110, F111, F112, F113, F114, F115, F116, F117, F118, F119, F120, G91_0, F121, F122, F123, F124, F125, F126, F127, F128, F129, F130, F131, F132⟩ (by decide) (by decide)
theorem d20_0 : decode prog_25_method_14_code 0 = .ok (.aload_n 1, 1) := by decide +kernel
theorem d20_1 : decode prog_25_method_14_code 1 = .ok (.aload_n 0, 1) := by decide +kernel
theorem d20_2 : decode prog_25_method_14_code 2 = .ok (.getfield 61, 3) := by decide +kernel
theorem d20_5 : decode prog_25_method_14_code 5 = .ok (.if_acmp .ne 7, 3) := by decide +kernel
theorem d20_8 : decode prog_25_method_14_code 8 = .ok (.iconst 0, 1) := by decide +kernel
theorem d20_9 : decode prog_25_method_14_code 9 = .ok (.goto 28, 3) := by decide +kernel
theorem d20_37 : decode prog_25_method_14_code 37 = .ok (.ireturn, 1) := by decide +kernel
theorem ef_20_RR (m : MethodId) (x0 : Addr) (x1 : Addr) : entryFrame m #[(.ref x0), (.ref x1)] 2 = mkF m 0 #[.val (.ref x0), .val (.ref x1)] [] := by first | (simp [entryFrame, mkF, argsToLocals, Value.category]; done) | rfl
set_option maxRecDepth 65536 in
set_option maxHeartbeats 40000000 in
theorem rm20_34 (l : Launch) (Z : State) (a0 : Array Value) (hw : ∀ d ∈ tables_1, d.before a0 Z = true) (ws : List Jvm.Cond) (a1 : Addr) (a2 : Addr) (h0 : Heap) (n0 : Nat) (Z0 : n0 ≤ Array.size h0) (P0 : Fld Z h0 a1 zs0 "child0" zs16 (.ref a2)) :
    MetFree l (⟨zs0, "slotOf", zs25⟩ : MethodName) (head1 (Jvm.Cond.code (⟨zs0, "slotOf", zs25⟩ : MethodName) prog_25_method_14_code 2 (some .int) :: ws) ({ frames := 0, cells := 0, slots := 0, locals := 0 } : Room)) (fun a U => a = #[(.ref a1), (.ref a2)] ∧ Z.Warmed39 U.vm ∧ U.heap = h0) (fun _ _ _ _ _ => True) (fun _ U o U' => ∃ v L, o = .returned v ∧ own_QQ n0 (own_Same (some (.int (0 : Int32))) h0) v U'.heap L ∧ FrameEnd U o U' L ({ frames := 0, cells := 0, slots := 0, locals := 0 } : Room).cells ({ frames := 0, cells := 0, slots := 0, locals := 0 } : Room).slots) := by
  refine MetFree.of_bodySF (plainFor_of_name pn_com_example_napkintree_napkintree_balancing_MultiwayTree_Node) hisR ?_
  intro p e s m args below meth c s₁ Bd hml0 hP hK
  obtain ⟨rfl, hZ, hh⟩ := hP
  have hx := Bd.exec
  have hby := Bd.bytes
  have hml : c.maxLocals = 2 := hml0
  have hown : s.vm.findClass zs0 = some m.cls := findClass_of_methodNamed Bd.named
  have hnm := (name_of_methodNamed Bd.named Bd.method).1
  have hlk : meth.locks = false := BodyLoose.notSynchronized Bd
  have Y0 : own_S p l e ({ frames := 0, cells := 0, slots := 0, locals := 0 } : Room) s m #[(.ref a1), (.ref a2)] below meth c n0 s₁ h0 0 0 := ⟨[], Stand.of_body Bd, Fr.nil n0, by rw [← hh, Bd.state]; rfl, Z0⟩
  refine (?_ : own_Fin p e below _ _)
  refine own_st (fun t k => castTop (ef_20_RR m a1 a2) k) ?_
  refine own_aloadN Y0 hx (pc' := 1) (hb hby d20_0) rfl rfl rfl ?_
  refine own_aloadN Y0 hx (pc' := 2) (hb hby d20_1) rfl rfl rfl ?_
  refine own_getF Y0 hx (pc' := 5) (v := (.ref a2)) hZ hown (host := "") (Or.inl (own_w hw 61 rfl)) Via.refl P0 (hb hby d20_2) rfl (fun T1 Y1 => ?_)
  refine own_acmp Y1 hx (pc' := 8) (same := true) (hb hby d20_5) rfl rfl (decide_eq_true rfl) (by decide) (by decide) ?_
  refine own_iconst Y1 hx (pc' := 9) (x := (0 : Int32)) (hb hby d20_8) rfl (by decide) ?_
  refine own_goto Y1 hx (pc' := 37) (hb hby d20_9) (by decide) (by decide) ?_
  exact own_retN Y1 hx hlk Bd.returns rfl (by simp) (hb hby d20_37) ⟨rfl, rfl⟩ (by decide) (by decide)
theorem pd__Lcom_example_napkintree_napkintree_balancing_MultiwayTree_Node__I : parseMethodDescriptor "(Lcom/example/napkintree/napkintree/balancing/MultiwayTree$Node;)I" = some ⟨[(.object "com/example/napkintree/napkintree/balancing/MultiwayTree$Node")], some .int⟩ := by decide +kernel
theorem d8_16 : decode prog_25_method_22_code 16 = .ok (.aload_n 0, 1) := by decide +kernel
theorem d8_17 : decode prog_25_method_22_code 17 = .ok (.getfield 58, 3) := by decide +kernel
theorem d8_20 : decode prog_25_method_22_code 20 = .ok (.goto 19, 3) := by decide +kernel
theorem d8_23 : decode prog_25_method_22_code 23 = .ok (.iload_n 1, 1) := by decide +kernel
theorem d8_24 : decode prog_25_method_22_code 24 = .ok (.iconst 2, 1) := by decide +kernel
theorem d8_25 : decode prog_25_method_22_code 25 = .ok (.if_icmp .ne 10, 3) := by decide +kernel
theorem d8_28 : decode prog_25_method_22_code 28 = .ok (.aload_n 0, 1) := by decide +kernel
theorem d8_29 : decode prog_25_method_22_code 29 = .ok (.getfield 55, 3) := by decide +kernel
theorem d8_32 : decode prog_25_method_22_code 32 = .ok (.goto 7, 3) := by decide +kernel
theorem d8_35 : decode prog_25_method_22_code 35 = .ok (.aload_n 0, 1) := by decide +kernel
theorem d8_36 : decode prog_25_method_22_code 36 = .ok (.getfield 51, 3) := by decide +kernel
set_option maxRecDepth 65536 in
set_option maxHeartbeats 40000000 in
theorem rm8_35 (l : Launch) (Z : State) (a0 : Array Value) (hw : ∀ d ∈ tables_1, d.before a0 Z = true) (ws : List Jvm.Cond) (a1 : Addr) (i2 : Int32) (h0 : Heap) (n0 : Nat) (Z0 : n0 ≤ Array.size h0) (P0 : Fld Z h0 a1 zs0 "child0" zs16 .null) (P1 : Fld Z h0 a1 zs0 "child1" zs16 .null) (P2 : Fld Z h0 a1 zs0 "child2" zs16 .null) (P3 : Fld Z h0 a1 zs0 "child3" zs16 .null) :
    MetFree l (⟨zs0, "child", zs17⟩ : MethodName) (head1 (Jvm.Cond.code (⟨zs0, "child", zs17⟩ : MethodName) prog_25_method_22_code 2 (some (.object zs0)) :: ws) ({ frames := 0, cells := 0, slots := 0, locals := 0 } : Room)) (fun a U => a = #[(.ref a1), (.int i2)] ∧ Z.Warmed39 U.vm ∧ U.heap = h0) (fun _ _ _ _ _ => True) (fun _ U o U' => ∃ v L, o = .returned v ∧ own_QQ n0 (own_Same (some .null) h0) v U'.heap L ∧ FrameEnd U o U' L ({ frames := 0, cells := 0, slots := 0, locals := 0 } : Room).cells ({ frames := 0, cells := 0, slots := 0, locals := 0 } : Room).slots) := by
  refine MetFree.of_bodySF (plainFor_of_name pn_com_example_napkintree_napkintree_balancing_MultiwayTree_Node) hisR ?_
  intro p e s m args below meth c s₁ Bd hml0 hP hK
  obtain ⟨rfl, hZ, hh⟩ := hP
  have hx := Bd.exec
  have hby := Bd.bytes
  have hml : c.maxLocals = 2 := hml0
  have hown : s.vm.findClass zs0 = some m.cls := findClass_of_methodNamed Bd.named
  have hnm := (name_of_methodNamed Bd.named Bd.method).1
  have hlk : meth.locks = false := BodyLoose.notSynchronized Bd
  have Y0 : own_S p l e ({ frames := 0, cells := 0, slots := 0, locals := 0 } : Room) s m #[(.ref a1), (.int i2)] below meth c n0 s₁ h0 0 0 := ⟨[], Stand.of_body Bd, Fr.nil n0, by rw [← hh, Bd.state]; rfl, Z0⟩
  refine (?_ : own_Fin p e below _ _)
  refine own_st (fun t k => castTop (ef_8_RI m a1 i2) k) ?_
  refine own_iloadN Y0 hx (pc' := 1) (hb hby d8_0) rfl rfl ?_
  refine own_iconst Y0 hx (pc' := 2) (x := (2 : Int32)) (hb hby d8_1) rfl (by decide) ?_
  by_cases qF1 : i2 < (2 : Int32)
  ·
    refine own_icmpNo Y0 hx (pc' := 5) (hb hby d8_2) rfl (tlt qF1).2.1 ?_
    refine own_iloadN Y0 hx (pc' := 6) (hb hby d8_5) rfl rfl ?_
    by_cases qF2 : i2 = (0 : Int32)
    ·
      refine own_ifNo Y0 hx (pc' := 9) (hb hby d8_6) rfl ((if0 _ _).trans (teq qF2).2) ?_
      refine own_aloadN Y0 hx (pc' := 10) (hb hby d8_9) rfl rfl rfl ?_
      refine own_getF Y0 hx (pc' := 13) (v := .null) hZ hown (host := "") (Or.inl (own_w hw 61 rfl)) Via.refl P0 (hb hby d8_10) rfl (fun T3 Y3 => ?_)
      refine own_goto Y3 hx (pc' := 39) (hb hby d8_13) (by decide) (by decide) ?_
      exact own_retA Y3 hx hlk Bd.returns rfl rfl rfl (hb hby d8_39) ⟨rfl, rfl⟩ (by decide) (by decide)
    ·
      refine own_ifYes Y0 hx (pc' := 16) (hb hby d8_6) ((if0 _ _).trans (feq qF2).2) (by decide) (by decide) ?_
      refine own_aloadN Y0 hx (pc' := 17) (hb hby d8_16) rfl rfl rfl ?_
      refine own_getF Y0 hx (pc' := 20) (v := .null) hZ hown (host := "") (Or.inl (own_w hw 125 rfl)) Via.refl P1 (hb hby d8_17) rfl (fun T4 Y4 => ?_)
      refine own_goto Y4 hx (pc' := 39) (hb hby d8_20) (by decide) (by decide) ?_
      exact own_retA Y4 hx hlk Bd.returns rfl rfl rfl (hb hby d8_39) ⟨rfl, rfl⟩ (by decide) (by decide)
  ·
    refine own_icmpYes Y0 hx (pc' := 23) (hb hby d8_2) (flt qF1).2.1 (by decide) (by decide) ?_
    refine own_iloadN Y0 hx (pc' := 24) (hb hby d8_23) rfl rfl ?_
    refine own_iconst Y0 hx (pc' := 25) (x := (2 : Int32)) (hb hby d8_24) rfl (by decide) ?_
    by_cases qF5 : i2 = (2 : Int32)
    ·
      refine own_icmpNo Y0 hx (pc' := 28) (hb hby d8_25) rfl (teq qF5).2 ?_
      refine own_aloadN Y0 hx (pc' := 29) (hb hby d8_28) rfl rfl rfl ?_
      refine own_getF Y0 hx (pc' := 32) (v := .null) hZ hown (host := "") (Or.inl (own_w hw 123 rfl)) Via.refl P2 (hb hby d8_29) rfl (fun T6 Y6 => ?_)
      refine own_goto Y6 hx (pc' := 39) (hb hby d8_32) (by decide) (by decide) ?_
      exact own_retA Y6 hx hlk Bd.returns rfl rfl rfl (hb hby d8_39) ⟨rfl, rfl⟩ (by decide) (by decide)
    ·
      refine own_icmpYes Y0 hx (pc' := 35) (hb hby d8_25) (feq qF5).2 (by decide) (by decide) ?_
      refine own_aloadN Y0 hx (pc' := 36) (hb hby d8_35) rfl rfl rfl ?_
      refine own_getF Y0 hx (pc' := 39) (v := .null) hZ hown (host := "") (Or.inl (own_w hw 124 rfl)) Via.refl P3 (hb hby d8_36) rfl (fun T7 Y7 => ?_)
      exact own_retA Y7 hx hlk Bd.returns rfl rfl rfl (hb hby d8_39) ⟨rfl, rfl⟩ (by decide) (by decide)
set_option maxRecDepth 65536 in
set_option maxHeartbeats 40000000 in
theorem rm8_36 (l : Launch) (Z : State) (a0 : Array Value) (hw : ∀ d ∈ tables_1, d.before a0 Z = true) (ws : List Jvm.Cond) (a1 : Addr) (a2 : Addr) (h0 : Heap) (n0 : Nat) (Z0 : n0 ≤ Array.size h0) (P0 : Fld Z h0 a1 zs0 "child1" zs16 (.ref a2)) :
    MetFree l (⟨zs0, "child", zs17⟩ : MethodName) (head1 (Jvm.Cond.code (⟨zs0, "child", zs17⟩ : MethodName) prog_25_method_22_code 2 (some (.object zs0)) :: ws) ({ frames := 0, cells := 0, slots := 0, locals := 0 } : Room)) (fun a U => a = #[(.ref a1), (.int (1 : Int32))] ∧ Z.Warmed39 U.vm ∧ U.heap = h0) (fun _ _ _ _ _ => True) (fun _ U o U' => ∃ v L, o = .returned v ∧ own_QQ n0 (own_Same (some (.ref a2)) h0) v U'.heap L ∧ FrameEnd U o U' L ({ frames := 0, cells := 0, slots := 0, locals := 0 } : Room).cells ({ frames := 0, cells := 0, slots := 0, locals := 0 } : Room).slots) := by
  refine MetFree.of_bodySF (plainFor_of_name pn_com_example_napkintree_napkintree_balancing_MultiwayTree_Node) hisR ?_
  intro p e s m args below meth c s₁ Bd hml0 hP hK
  obtain ⟨rfl, hZ, hh⟩ := hP
  have hx := Bd.exec
  have hby := Bd.bytes
  have hml : c.maxLocals = 2 := hml0
  have hown : s.vm.findClass zs0 = some m.cls := findClass_of_methodNamed Bd.named
  have hnm := (name_of_methodNamed Bd.named Bd.method).1
  have hlk : meth.locks = false := BodyLoose.notSynchronized Bd
  have Y0 : own_S p l e ({ frames := 0, cells := 0, slots := 0, locals := 0 } : Room) s m #[(.ref a1), (.int (1 : Int32))] below meth c n0 s₁ h0 0 0 := ⟨[], Stand.of_body Bd, Fr.nil n0, by rw [← hh, Bd.state]; rfl, Z0⟩
  refine (?_ : own_Fin p e below _ _)
  refine own_st (fun t k => castTop (ef_8_RI m a1 (1 : Int32)) k) ?_
  refine own_iloadN Y0 hx (pc' := 1) (hb hby d8_0) rfl rfl ?_
  refine own_iconst Y0 hx (pc' := 2) (x := (2 : Int32)) (hb hby d8_1) rfl (by decide) ?_
  refine own_icmpNo Y0 hx (pc' := 5) (hb hby d8_2) rfl (by decide) ?_
  refine own_iloadN Y0 hx (pc' := 6) (hb hby d8_5) rfl rfl ?_
  refine own_ifYes Y0 hx (pc' := 16) (hb hby d8_6) (by decide) (by decide) (by decide) ?_
  refine own_aloadN Y0 hx (pc' := 17) (hb hby d8_16) rfl rfl rfl ?_
  refine own_getF Y0 hx (pc' := 20) (v := (.ref a2)) hZ hown (host := "") (Or.inl (own_w hw 125 rfl)) Via.refl P0 (hb hby d8_17) rfl (fun T1 Y1 => ?_)
  refine own_goto Y1 hx (pc' := 39) (hb hby d8_20) (by decide) (by decide) ?_
  exact own_retA Y1 hx hlk Bd.returns rfl rfl rfl (hb hby d8_39) ⟨rfl, rfl⟩ (by decide) (by decide)
theorem d20_12 : decode prog_25_method_14_code 12 = .ok (.aload_n 1, 1) := by decide +kernel
theorem d20_13 : decode prog_25_method_14_code 13 = .ok (.aload_n 0, 1) := by decide +kernel
theorem d20_14 : decode prog_25_method_14_code 14 = .ok (.getfield 58, 3) := by decide +kernel
theorem d20_17 : decode prog_25_method_14_code 17 = .ok (.if_acmp .ne 7, 3) := by decide +kernel
theorem d20_20 : decode prog_25_method_14_code 20 = .ok (.iconst 1, 1) := by decide +kernel
theorem d20_21 : decode prog_25_method_14_code 21 = .ok (.goto 16, 3) := by decide +kernel
set_option maxRecDepth 65536 in
set_option maxHeartbeats 40000000 in
theorem rm20_37 (l : Launch) (Z : State) (a0 : Array Value) (hw : ∀ d ∈ tables_1, d.before a0 Z = true) (ws : List Jvm.Cond) (a1 : Addr) (a2 : Addr) (a3 : Addr) (h0 : Heap) (n0 : Nat) (Z0 : n0 ≤ Array.size h0) (P0 : Fld Z h0 a1 zs0 "child0" zs16 (.ref a3)) (P1 : a2 ≠ a3) (P2 : Fld Z h0 a1 zs0 "child1" zs16 (.ref a2)) :
    MetFree l (⟨zs0, "slotOf", zs25⟩ : MethodName) (head1 (Jvm.Cond.code (⟨zs0, "slotOf", zs25⟩ : MethodName) prog_25_method_14_code 2 (some .int) :: ws) ({ frames := 0, cells := 0, slots := 0, locals := 0 } : Room)) (fun a U => a = #[(.ref a1), (.ref a2)] ∧ Z.Warmed39 U.vm ∧ U.heap = h0) (fun _ _ _ _ _ => True) (fun _ U o U' => ∃ v L, o = .returned v ∧ own_QQ n0 (own_Same (some (.int (1 : Int32))) h0) v U'.heap L ∧ FrameEnd U o U' L ({ frames := 0, cells := 0, slots := 0, locals := 0 } : Room).cells ({ frames := 0, cells := 0, slots := 0, locals := 0 } : Room).slots) := by
  refine MetFree.of_bodySF (plainFor_of_name pn_com_example_napkintree_napkintree_balancing_MultiwayTree_Node) hisR ?_
  intro p e s m args below meth c s₁ Bd hml0 hP hK
  obtain ⟨rfl, hZ, hh⟩ := hP
  have hx := Bd.exec
  have hby := Bd.bytes
  have hml : c.maxLocals = 2 := hml0
  have hown : s.vm.findClass zs0 = some m.cls := findClass_of_methodNamed Bd.named
  have hnm := (name_of_methodNamed Bd.named Bd.method).1
  have hlk : meth.locks = false := BodyLoose.notSynchronized Bd
  have Y0 : own_S p l e ({ frames := 0, cells := 0, slots := 0, locals := 0 } : Room) s m #[(.ref a1), (.ref a2)] below meth c n0 s₁ h0 0 0 := ⟨[], Stand.of_body Bd, Fr.nil n0, by rw [← hh, Bd.state]; rfl, Z0⟩
  refine (?_ : own_Fin p e below _ _)
  refine own_st (fun t k => castTop (ef_20_RR m a1 a2) k) ?_
  refine own_aloadN Y0 hx (pc' := 1) (hb hby d20_0) rfl rfl rfl ?_
  refine own_aloadN Y0 hx (pc' := 2) (hb hby d20_1) rfl rfl rfl ?_
  refine own_getF Y0 hx (pc' := 5) (v := (.ref a3)) hZ hown (host := "") (Or.inl (own_w hw 61 rfl)) Via.refl P0 (hb hby d20_2) rfl (fun T1 Y1 => ?_)
  refine own_acmp Y1 hx (pc' := 12) (same := false) (hb hby d20_5) rfl rfl (decide_eq_false fun q => P1 (Value.ref.inj q)) (by decide) (by decide) ?_
  refine own_aloadN Y1 hx (pc' := 13) (hb hby d20_12) rfl rfl rfl ?_
  refine own_aloadN Y1 hx (pc' := 14) (hb hby d20_13) rfl rfl rfl ?_
  refine own_getF Y1 hx (pc' := 17) (v := (.ref a2)) hZ hown (host := "") (Or.inl (own_w hw 125 rfl)) Via.refl P2 (hb hby d20_14) rfl (fun T2 Y2 => ?_)
  refine own_acmp Y2 hx (pc' := 20) (same := true) (hb hby d20_17) rfl rfl (decide_eq_true rfl) (by decide) (by decide) ?_
  refine own_iconst Y2 hx (pc' := 21) (x := (1 : Int32)) (hb hby d20_20) rfl (by decide) ?_
  refine own_goto Y2 hx (pc' := 37) (hb hby d20_21) (by decide) (by decide) ?_
  exact own_retN Y2 hx hlk Bd.returns rfl (by simp) (hb hby d20_37) ⟨rfl, rfl⟩ (by decide) (by decide)
set_option maxRecDepth 65536 in
set_option maxHeartbeats 40000000 in
theorem rm8_38 (l : Launch) (Z : State) (a0 : Array Value) (hw : ∀ d ∈ tables_1, d.before a0 Z = true) (ws : List Jvm.Cond) (a1 : Addr) (a2 : Addr) (h0 : Heap) (n0 : Nat) (Z0 : n0 ≤ Array.size h0) (P0 : Fld Z h0 a1 zs0 "child2" zs16 (.ref a2)) :
    MetFree l (⟨zs0, "child", zs17⟩ : MethodName) (head1 (Jvm.Cond.code (⟨zs0, "child", zs17⟩ : MethodName) prog_25_method_22_code 2 (some (.object zs0)) :: ws) ({ frames := 0, cells := 0, slots := 0, locals := 0 } : Room)) (fun a U => a = #[(.ref a1), (.int (2 : Int32))] ∧ Z.Warmed39 U.vm ∧ U.heap = h0) (fun _ _ _ _ _ => True) (fun _ U o U' => ∃ v L, o = .returned v ∧ own_QQ n0 (own_Same (some (.ref a2)) h0) v U'.heap L ∧ FrameEnd U o U' L ({ frames := 0, cells := 0, slots := 0, locals := 0 } : Room).cells ({ frames := 0, cells := 0, slots := 0, locals := 0 } : Room).slots) := by
  refine MetFree.of_bodySF (plainFor_of_name pn_com_example_napkintree_napkintree_balancing_MultiwayTree_Node) hisR ?_
  intro p e s m args below meth c s₁ Bd hml0 hP hK
  obtain ⟨rfl, hZ, hh⟩ := hP
  have hx := Bd.exec
  have hby := Bd.bytes
  have hml : c.maxLocals = 2 := hml0
  have hown : s.vm.findClass zs0 = some m.cls := findClass_of_methodNamed Bd.named
  have hnm := (name_of_methodNamed Bd.named Bd.method).1
  have hlk : meth.locks = false := BodyLoose.notSynchronized Bd
  have Y0 : own_S p l e ({ frames := 0, cells := 0, slots := 0, locals := 0 } : Room) s m #[(.ref a1), (.int (2 : Int32))] below meth c n0 s₁ h0 0 0 := ⟨[], Stand.of_body Bd, Fr.nil n0, by rw [← hh, Bd.state]; rfl, Z0⟩
  refine (?_ : own_Fin p e below _ _)
  refine own_st (fun t k => castTop (ef_8_RI m a1 (2 : Int32)) k) ?_
  refine own_iloadN Y0 hx (pc' := 1) (hb hby d8_0) rfl rfl ?_
  refine own_iconst Y0 hx (pc' := 2) (x := (2 : Int32)) (hb hby d8_1) rfl (by decide) ?_
  refine own_icmpYes Y0 hx (pc' := 23) (hb hby d8_2) (by decide) (by decide) (by decide) ?_
  refine own_iloadN Y0 hx (pc' := 24) (hb hby d8_23) rfl rfl ?_
  refine own_iconst Y0 hx (pc' := 25) (x := (2 : Int32)) (hb hby d8_24) rfl (by decide) ?_
  refine own_icmpNo Y0 hx (pc' := 28) (hb hby d8_25) rfl (by decide) ?_
  refine own_aloadN Y0 hx (pc' := 29) (hb hby d8_28) rfl rfl rfl ?_
  refine own_getF Y0 hx (pc' := 32) (v := (.ref a2)) hZ hown (host := "") (Or.inl (own_w hw 123 rfl)) Via.refl P0 (hb hby d8_29) rfl (fun T1 Y1 => ?_)
  refine own_goto Y1 hx (pc' := 39) (hb hby d8_32) (by decide) (by decide) ?_
  exact own_retA Y1 hx hlk Bd.returns rfl rfl rfl (hb hby d8_39) ⟨rfl, rfl⟩ (by decide) (by decide)
theorem d20_24 : decode prog_25_method_14_code 24 = .ok (.aload_n 1, 1) := by decide +kernel
theorem d20_25 : decode prog_25_method_14_code 25 = .ok (.aload_n 0, 1) := by decide +kernel
theorem d20_26 : decode prog_25_method_14_code 26 = .ok (.getfield 55, 3) := by decide +kernel
theorem d20_29 : decode prog_25_method_14_code 29 = .ok (.if_acmp .ne 7, 3) := by decide +kernel
theorem d20_32 : decode prog_25_method_14_code 32 = .ok (.iconst 2, 1) := by decide +kernel
theorem d20_33 : decode prog_25_method_14_code 33 = .ok (.goto 4, 3) := by decide +kernel
set_option maxRecDepth 65536 in
set_option maxHeartbeats 40000000 in
theorem rm20_39 (l : Launch) (Z : State) (a0 : Array Value) (hw : ∀ d ∈ tables_1, d.before a0 Z = true) (ws : List Jvm.Cond) (a1 : Addr) (a2 : Addr) (a3 : Addr) (a4 : Addr) (h0 : Heap) (n0 : Nat) (Z0 : n0 ≤ Array.size h0) (P0 : Fld Z h0 a1 zs0 "child0" zs16 (.ref a3)) (P1 : a2 ≠ a3) (P2 : Fld Z h0 a1 zs0 "child1" zs16 (.ref a4)) (P3 : a2 ≠ a4) (P4 : Fld Z h0 a1 zs0 "child2" zs16 (.ref a2)) :
    MetFree l (⟨zs0, "slotOf", zs25⟩ : MethodName) (head1 (Jvm.Cond.code (⟨zs0, "slotOf", zs25⟩ : MethodName) prog_25_method_14_code 2 (some .int) :: ws) ({ frames := 0, cells := 0, slots := 0, locals := 0 } : Room)) (fun a U => a = #[(.ref a1), (.ref a2)] ∧ Z.Warmed39 U.vm ∧ U.heap = h0) (fun _ _ _ _ _ => True) (fun _ U o U' => ∃ v L, o = .returned v ∧ own_QQ n0 (own_Same (some (.int (2 : Int32))) h0) v U'.heap L ∧ FrameEnd U o U' L ({ frames := 0, cells := 0, slots := 0, locals := 0 } : Room).cells ({ frames := 0, cells := 0, slots := 0, locals := 0 } : Room).slots) := by
  refine MetFree.of_bodySF (plainFor_of_name pn_com_example_napkintree_napkintree_balancing_MultiwayTree_Node) hisR ?_
  intro p e s m args below meth c s₁ Bd hml0 hP hK
  obtain ⟨rfl, hZ, hh⟩ := hP
  have hx := Bd.exec
  have hby := Bd.bytes
  have hml : c.maxLocals = 2 := hml0
  have hown : s.vm.findClass zs0 = some m.cls := findClass_of_methodNamed Bd.named
  have hnm := (name_of_methodNamed Bd.named Bd.method).1
  have hlk : meth.locks = false := BodyLoose.notSynchronized Bd
  have Y0 : own_S p l e ({ frames := 0, cells := 0, slots := 0, locals := 0 } : Room) s m #[(.ref a1), (.ref a2)] below meth c n0 s₁ h0 0 0 := ⟨[], Stand.of_body Bd, Fr.nil n0, by rw [← hh, Bd.state]; rfl, Z0⟩
  refine (?_ : own_Fin p e below _ _)
  refine own_st (fun t k => castTop (ef_20_RR m a1 a2) k) ?_
  refine own_aloadN Y0 hx (pc' := 1) (hb hby d20_0) rfl rfl rfl ?_
  refine own_aloadN Y0 hx (pc' := 2) (hb hby d20_1) rfl rfl rfl ?_
  refine own_getF Y0 hx (pc' := 5) (v := (.ref a3)) hZ hown (host := "") (Or.inl (own_w hw 61 rfl)) Via.refl P0 (hb hby d20_2) rfl (fun T1 Y1 => ?_)
  refine own_acmp Y1 hx (pc' := 12) (same := false) (hb hby d20_5) rfl rfl (decide_eq_false fun q => P1 (Value.ref.inj q)) (by decide) (by decide) ?_
  refine own_aloadN Y1 hx (pc' := 13) (hb hby d20_12) rfl rfl rfl ?_
  refine own_aloadN Y1 hx (pc' := 14) (hb hby d20_13) rfl rfl rfl ?_
  refine own_getF Y1 hx (pc' := 17) (v := (.ref a4)) hZ hown (host := "") (Or.inl (own_w hw 125 rfl)) Via.refl P2 (hb hby d20_14) rfl (fun T2 Y2 => ?_)
  refine own_acmp Y2 hx (pc' := 24) (same := false) (hb hby d20_17) rfl rfl (decide_eq_false fun q => P3 (Value.ref.inj q)) (by decide) (by decide) ?_
  refine own_aloadN Y2 hx (pc' := 25) (hb hby d20_24) rfl rfl rfl ?_
  refine own_aloadN Y2 hx (pc' := 26) (hb hby d20_25) rfl rfl rfl ?_
  refine own_getF Y2 hx (pc' := 29) (v := (.ref a2)) hZ hown (host := "") (Or.inl (own_w hw 123 rfl)) Via.refl P4 (hb hby d20_26) rfl (fun T3 Y3 => ?_)
  refine own_acmp Y3 hx (pc' := 32) (same := true) (hb hby d20_29) rfl rfl (decide_eq_true rfl) (by decide) (by decide) ?_
  refine own_iconst Y3 hx (pc' := 33) (x := (2 : Int32)) (hb hby d20_32) rfl (by decide) ?_
  refine own_goto Y3 hx (pc' := 37) (hb hby d20_33) (by decide) (by decide) ?_
  exact own_retN Y3 hx hlk Bd.returns rfl (by simp) (hb hby d20_37) ⟨rfl, rfl⟩ (by decide) (by decide)
set_option maxRecDepth 65536 in
set_option maxHeartbeats 40000000 in
theorem rm8_40 (l : Launch) (Z : State) (a0 : Array Value) (hw : ∀ d ∈ tables_1, d.before a0 Z = true) (ws : List Jvm.Cond) (a1 : Addr) (a2 : Addr) (h0 : Heap) (n0 : Nat) (Z0 : n0 ≤ Array.size h0) (P0 : Fld Z h0 a1 zs0 "child3" zs16 (.ref a2)) :
    MetFree l (⟨zs0, "child", zs17⟩ : MethodName) (head1 (Jvm.Cond.code (⟨zs0, "child", zs17⟩ : MethodName) prog_25_method_22_code 2 (some (.object zs0)) :: ws) ({ frames := 0, cells := 0, slots := 0, locals := 0 } : Room)) (fun a U => a = #[(.ref a1), (.int (3 : Int32))] ∧ Z.Warmed39 U.vm ∧ U.heap = h0) (fun _ _ _ _ _ => True) (fun _ U o U' => ∃ v L, o = .returned v ∧ own_QQ n0 (own_Same (some (.ref a2)) h0) v U'.heap L ∧ FrameEnd U o U' L ({ frames := 0, cells := 0, slots := 0, locals := 0 } : Room).cells ({ frames := 0, cells := 0, slots := 0, locals := 0 } : Room).slots) := by
  refine MetFree.of_bodySF (plainFor_of_name pn_com_example_napkintree_napkintree_balancing_MultiwayTree_Node) hisR ?_
  intro p e s m args below meth c s₁ Bd hml0 hP hK
  obtain ⟨rfl, hZ, hh⟩ := hP
  have hx := Bd.exec
  have hby := Bd.bytes
  have hml : c.maxLocals = 2 := hml0
  have hown : s.vm.findClass zs0 = some m.cls := findClass_of_methodNamed Bd.named
  have hnm := (name_of_methodNamed Bd.named Bd.method).1
  have hlk : meth.locks = false := BodyLoose.notSynchronized Bd
  have Y0 : own_S p l e ({ frames := 0, cells := 0, slots := 0, locals := 0 } : Room) s m #[(.ref a1), (.int (3 : Int32))] below meth c n0 s₁ h0 0 0 := ⟨[], Stand.of_body Bd, Fr.nil n0, by rw [← hh, Bd.state]; rfl, Z0⟩
  refine (?_ : own_Fin p e below _ _)
  refine own_st (fun t k => castTop (ef_8_RI m a1 (3 : Int32)) k) ?_
  refine own_iloadN Y0 hx (pc' := 1) (hb hby d8_0) rfl rfl ?_
  refine own_iconst Y0 hx (pc' := 2) (x := (2 : Int32)) (hb hby d8_1) rfl (by decide) ?_
  refine own_icmpYes Y0 hx (pc' := 23) (hb hby d8_2) (by decide) (by decide) (by decide) ?_
  refine own_iloadN Y0 hx (pc' := 24) (hb hby d8_23) rfl rfl ?_
  refine own_iconst Y0 hx (pc' := 25) (x := (2 : Int32)) (hb hby d8_24) rfl (by decide) ?_
  refine own_icmpYes Y0 hx (pc' := 35) (hb hby d8_25) (by decide) (by decide) (by decide) ?_
  refine own_aloadN Y0 hx (pc' := 36) (hb hby d8_35) rfl rfl rfl ?_
  refine own_getF Y0 hx (pc' := 39) (v := (.ref a2)) hZ hown (host := "") (Or.inl (own_w hw 124 rfl)) Via.refl P0 (hb hby d8_36) rfl (fun T1 Y1 => ?_)
  exact own_retA Y1 hx hlk Bd.returns rfl rfl rfl (hb hby d8_39) ⟨rfl, rfl⟩ (by decide) (by decide)
theorem d20_36 : decode prog_25_method_14_code 36 = .ok (.iconst 3, 1) := by decide +kernel
set_option maxRecDepth 65536 in
set_option maxHeartbeats 40000000 in
theorem rm20_41 (l : Launch) (Z : State) (a0 : Array Value) (hw : ∀ d ∈ tables_1, d.before a0 Z = true) (ws : List Jvm.Cond) (a1 : Addr) (a2 : Addr) (a3 : Addr) (a4 : Addr) (a5 : Addr) (h0 : Heap) (n0 : Nat) (Z0 : n0 ≤ Array.size h0) (P0 : Fld Z h0 a1 zs0 "child0" zs16 (.ref a3)) (P1 : a2 ≠ a3) (P2 : Fld Z h0 a1 zs0 "child1" zs16 (.ref a4)) (P3 : a2 ≠ a4) (P4 : Fld Z h0 a1 zs0 "child2" zs16 (.ref a5)) (P5 : a2 ≠ a5) :
    MetFree l (⟨zs0, "slotOf", zs25⟩ : MethodName) (head1 (Jvm.Cond.code (⟨zs0, "slotOf", zs25⟩ : MethodName) prog_25_method_14_code 2 (some .int) :: ws) ({ frames := 0, cells := 0, slots := 0, locals := 0 } : Room)) (fun a U => a = #[(.ref a1), (.ref a2)] ∧ Z.Warmed39 U.vm ∧ U.heap = h0) (fun _ _ _ _ _ => True) (fun _ U o U' => ∃ v L, o = .returned v ∧ own_QQ n0 (own_Same (some (.int (3 : Int32))) h0) v U'.heap L ∧ FrameEnd U o U' L ({ frames := 0, cells := 0, slots := 0, locals := 0 } : Room).cells ({ frames := 0, cells := 0, slots := 0, locals := 0 } : Room).slots) := by
  refine MetFree.of_bodySF (plainFor_of_name pn_com_example_napkintree_napkintree_balancing_MultiwayTree_Node) hisR ?_
  intro p e s m args below meth c s₁ Bd hml0 hP hK
  obtain ⟨rfl, hZ, hh⟩ := hP
  have hx := Bd.exec
  have hby := Bd.bytes
  have hml : c.maxLocals = 2 := hml0
  have hown : s.vm.findClass zs0 = some m.cls := findClass_of_methodNamed Bd.named
  have hnm := (name_of_methodNamed Bd.named Bd.method).1
  have hlk : meth.locks = false := BodyLoose.notSynchronized Bd
  have Y0 : own_S p l e ({ frames := 0, cells := 0, slots := 0, locals := 0 } : Room) s m #[(.ref a1), (.ref a2)] below meth c n0 s₁ h0 0 0 := ⟨[], Stand.of_body Bd, Fr.nil n0, by rw [← hh, Bd.state]; rfl, Z0⟩
  refine (?_ : own_Fin p e below _ _)
  refine own_st (fun t k => castTop (ef_20_RR m a1 a2) k) ?_
  refine own_aloadN Y0 hx (pc' := 1) (hb hby d20_0) rfl rfl rfl ?_
  refine own_aloadN Y0 hx (pc' := 2) (hb hby d20_1) rfl rfl rfl ?_
  refine own_getF Y0 hx (pc' := 5) (v := (.ref a3)) hZ hown (host := "") (Or.inl (own_w hw 61 rfl)) Via.refl P0 (hb hby d20_2) rfl (fun T1 Y1 => ?_)
  refine own_acmp Y1 hx (pc' := 12) (same := false) (hb hby d20_5) rfl rfl (decide_eq_false fun q => P1 (Value.ref.inj q)) (by decide) (by decide) ?_
  refine own_aloadN Y1 hx (pc' := 13) (hb hby d20_12) rfl rfl rfl ?_
  refine own_aloadN Y1 hx (pc' := 14) (hb hby d20_13) rfl rfl rfl ?_
  refine own_getF Y1 hx (pc' := 17) (v := (.ref a4)) hZ hown (host := "") (Or.inl (own_w hw 125 rfl)) Via.refl P2 (hb hby d20_14) rfl (fun T2 Y2 => ?_)
  refine own_acmp Y2 hx (pc' := 24) (same := false) (hb hby d20_17) rfl rfl (decide_eq_false fun q => P3 (Value.ref.inj q)) (by decide) (by decide) ?_
  refine own_aloadN Y2 hx (pc' := 25) (hb hby d20_24) rfl rfl rfl ?_
  refine own_aloadN Y2 hx (pc' := 26) (hb hby d20_25) rfl rfl rfl ?_
  refine own_getF Y2 hx (pc' := 29) (v := (.ref a5)) hZ hown (host := "") (Or.inl (own_w hw 123 rfl)) Via.refl P4 (hb hby d20_26) rfl (fun T3 Y3 => ?_)
  refine own_acmp Y3 hx (pc' := 36) (same := false) (hb hby d20_29) rfl rfl (decide_eq_false fun q => P5 (Value.ref.inj q)) (by decide) (by decide) ?_
  refine own_iconst Y3 hx (pc' := 37) (x := (3 : Int32)) (hb hby d20_36) rfl (by decide) ?_
  exact own_retN Y3 hx hlk Bd.returns rfl (by simp) (hb hby d20_37) ⟨rfl, rfl⟩ (by decide) (by decide)
theorem d13_46 : decode prog_25_method_4_code 46 = .ok (.aload_n 0, 1) := by decide +kernel
theorem d13_47 : decode prog_25_method_4_code 47 = .ok (.aload 4, 2) := by decide +kernel
theorem d13_49 : decode prog_25_method_4_code 49 = .ok (.putfield 39, 3) := by decide +kernel
theorem d13_52 : decode prog_25_method_4_code 52 = .ok (.aload_n 0, 1) := by decide +kernel
theorem d13_53 : decode prog_25_method_4_code 53 = .ok (.aload_n 3, 1) := by decide +kernel
theorem d13_54 : decode prog_25_method_4_code 54 = .ok (.putfield 42, 3) := by decide +kernel
theorem d13_57 : decode prog_25_method_4_code 57 = .ok (.goto 30, 3) := by decide +kernel
def P13_42 (Z : State) (a1 : Addr) (a2 : Addr) (h0 : Heap) (h : Heap) : Prop := own_Kp h0 h [(a1, Jvm.RoadKit.slotOf Z zs0 "key2" zs1), (a1, Jvm.RoadKit.slotOf Z zs0 "value2" zs1), (a1, Jvm.RoadKit.slotOf Z zs0 "key1" zs1), (a1, Jvm.RoadKit.slotOf Z zs0 "value1" zs1)] ∧ Fld Z h a1 zs0 "key2" zs1 (.ref a2) ∧ Fld Z h a1 zs0 "value2" zs1 .null ∧ Fld Z h a1 zs0 "key1" zs1 (.ref a2) ∧ Fld Z h a1 zs0 "value1" zs1 .null
theorem P13_42_sz {Z : State} {a1 : Addr} {a2 : Addr} {h0 : Heap} : ∀ v h', (own_R none (P13_42 Z a1 a2 h0)) v h' → Array.size h0 ≤ Array.size h' := by
  intro v h' q
  obtain ⟨-, K, -⟩ := q
  exact K.1
set_option maxRecDepth 65536 in
set_option maxHeartbeats 40000000 in
theorem rm13_42 (l : Launch) (Z : State) (a0 : Array Value) (hw : ∀ d ∈ tables_1, d.before a0 Z = true) (ws : List Jvm.Cond) (a1 : Addr) (a2 : Addr) (h0 : Heap) (n0 : Nat) (Z0 : n0 ≤ Array.size h0) (P0 : Sta Z h0 zs0 "NULL_KEY" zs1 (.ref a2)) (P1 : Fld Z h0 a1 zs0 "key1" zs1 (.ref a2)) (P2 : Fld Z h0 a1 zs0 "key2" zs1 .null) (P3 : Exa Z h0 a1 zs0) (P4 : n0 ≤ a1) (P5 : Fld Z h0 a1 zs0 "value1" zs1 .null) (P6 : Fld Z h0 a1 zs0 "value2" zs1 .null) :
    MetFree l (⟨zs0, "insertEntry", zs20⟩ : MethodName) (head1 (Jvm.Cond.code (⟨zs0, "insertEntry", zs20⟩ : MethodName) prog_25_method_4_code 5 none :: ws) ({ frames := 1, cells := 0, slots := 0, locals := 12 } : Room)) (fun a U => a = #[(.ref a1), (.int (1 : Int32)), .null, .null] ∧ Z.Warmed39 U.vm ∧ U.heap = h0) (fun _ _ _ _ _ => True) (fun _ U o U' => ∃ v L, o = .returned v ∧ own_QQ n0 (own_R none (P13_42 Z a1 a2 h0)) v U'.heap L ∧ FrameEnd U o U' L ({ frames := 1, cells := 0, slots := 0, locals := 12 } : Room).cells ({ frames := 1, cells := 0, slots := 0, locals := 12 } : Room).slots) := by
  refine MetFree.of_bodySF (plainFor_of_name pn_com_example_napkintree_napkintree_balancing_MultiwayTree_Node) hisR ?_
  intro p e s m args below meth c s₁ Bd hml0 hP hK
  obtain ⟨rfl, hZ, hh⟩ := hP
  have hx := Bd.exec
  have hby := Bd.bytes
  have hml : c.maxLocals = 5 := hml0
  have hown : s.vm.findClass zs0 = some m.cls := findClass_of_methodNamed Bd.named
  have hnm := (name_of_methodNamed Bd.named Bd.method).1
  have hlk : meth.locks = false := BodyLoose.notSynchronized Bd
  have Y0 : own_S p l e ({ frames := 1, cells := 0, slots := 0, locals := 12 } : Room) s m #[(.ref a1), (.int (1 : Int32)), .null, .null] below meth c n0 s₁ h0 0 0 := ⟨[], Stand.of_body Bd, Fr.nil n0, by rw [← hh, Bd.state]; rfl, Z0⟩
  refine (?_ : own_Fin p e below _ _)
  refine own_st (fun t k => castTop (ef_13_RINN m a1 (1 : Int32)) k) ?_
  refine own_aloadN Y0 hx (pc' := 1) (hb hby d13_0) rfl rfl rfl ?_
  refine own_static Y0 hx (pc' := 4) (W := 0) (cl' := 0) (sl' := 0) (as' := [.null]) (S' := []) hZ hown (own_w hw 107 rfl) (own_w hw 108 rfl) (own_w hw 3 rfl) (own_w hw 109 rfl) (by decide) (rm14_9 l Z a0 hw [] a2 h0 n0 (own_sz Y0) P0) (hb hby d13_1) rfl (by rw [hml]; rfl) rfl (lenOf pd__Ljava_lang_Object__Ljava_lang_Object_ rfl) rfl (by decide) (by decide) rfl rfl (by decide) (by decide) own_Same.sz (own_fixS (S2 := [(.ref a2)]) rfl (fun T1 Y1 => ?_))
  refine own_astore Y1 hx (pc' := 6) (Ls' := #[.val (.ref a1), .val (.int (1 : Int32)), .val .null, .val .null, .val (.ref a2)]) (hb hby d13_4) rfl rfl rfl ?_
  refine own_iloadN Y1 hx (pc' := 7) (hb hby d13_6) rfl rfl ?_
  refine own_iconst Y1 hx (pc' := 8) (x := (2 : Int32)) (hb hby d13_7) rfl (by decide) ?_
  refine own_icmpYes Y1 hx (pc' := 25) (hb hby d13_8) (by decide) (by decide) (by decide) ?_
  refine own_aloadN Y1 hx (pc' := 26) (hb hby d13_25) rfl rfl rfl ?_
  refine own_aloadN Y1 hx (pc' := 27) (hb hby d13_26) rfl rfl rfl ?_
  refine own_getF Y1 hx (pc' := 30) (v := (.ref a2)) hZ hown (host := "") (Or.inl (own_w hw 81 rfl)) Via.refl P1 (hb hby d13_27) rfl (fun T2 Y2 => ?_)
  refine own_putF Y2 hx (pc' := 33) hZ hown (host := "") (Or.inl (own_w hw 110 rfl)) Via.refl P2 P3 (Or.inl (own_w hw 63 rfl)) (own_w hw 2 rfl) (ty := (.object zs2)) (by decide) rfl rfl P4 (hb hby d13_30) rfl (fun T3 h3 Y3 K3 F3 => ?_)
  refine own_aloadN Y3 hx (pc' := 34) (hb hby d13_33) rfl rfl rfl ?_
  refine own_aloadN Y3 hx (pc' := 35) (hb hby d13_34) rfl rfl rfl ?_
  have F4 := (own_F (v := .null) P5 K3 (own_nr (sl_19 hw) own_nin0))
  refine own_getF Y3 hx (pc' := 38) (v := .null) hZ hown (host := "") (Or.inl (own_w hw 93 rfl)) Via.refl F4 (hb hby d13_35) rfl (fun T5 Y5 => ?_)
  have F6 := (own_F (v := .null) P6 K3 (own_nr (sl_23 hw) own_nin0))
  have F7 := (own_E P3 K3)
  refine own_putF Y5 hx (pc' := 41) hZ hown (host := "") (Or.inl (own_w hw 111 rfl)) Via.refl F6 F7 (Or.inl (own_w hw 67 rfl)) (own_w hw 2 rfl) (ty := (.object zs2)) (by decide) rfl rfl P4 (hb hby d13_38) rfl (fun T8 h8 Y8 K8 F8 => ?_)
  refine own_iloadN Y8 hx (pc' := 42) (hb hby d13_41) rfl rfl ?_
  refine own_iconst Y8 hx (pc' := 43) (x := (1 : Int32)) (hb hby d13_42) rfl (by decide) ?_
  refine own_icmpNo Y8 hx (pc' := 46) (hb hby d13_43) rfl (by decide) ?_
  refine own_aloadN Y8 hx (pc' := 47) (hb hby d13_46) rfl rfl rfl ?_
  refine own_aload Y8 hx (pc' := 49) (hb hby d13_47) rfl rfl rfl ?_
  have F9 := (own_F (v := (.ref a2)) (own_F (v := (.ref a2)) P1 K3 (own_nr (sl_32 hw) own_nin0)) K8 (own_nr (sl_33 hw) own_nin0))
  have F10 := (own_E F7 K8)
  refine own_putF Y8 hx (pc' := 52) hZ hown (host := "") (Or.inl (own_w hw 81 rfl)) Via.refl F9 F10 (Or.inl (own_w hw 82 rfl)) (own_w hw 2 rfl) (ty := (.object zs2)) (by decide) rfl rfl P4 (hb hby d13_49) rfl (fun T11 h11 Y11 K11 F11 => ?_)
  refine own_aloadN Y11 hx (pc' := 53) (hb hby d13_52) rfl rfl rfl ?_
  refine own_aloadN Y11 hx (pc' := 54) (hb hby d13_53) rfl rfl rfl ?_
  have F12 := (own_F (v := .null) (own_F (v := .null) F4 K8 (own_nr (sl_38 hw) own_nin0)) K11 (own_nr (sl_18 hw) own_nin0))
  have F13 := (own_E F10 K11)
  refine own_putF Y11 hx (pc' := 57) hZ hown (host := "") (Or.inl (own_w hw 93 rfl)) Via.refl F12 F13 (Or.inl (own_w hw 94 rfl)) (own_w hw 2 rfl) (ty := (.object zs2)) (by decide) rfl rfl P4 (hb hby d13_54) rfl (fun T14 h14 Y14 K14 F14 => ?_)
  refine own_goto Y14 hx (pc' := 87) (hb hby d13_57) (by decide) (by decide) ?_
  have KC15 : own_Kp h0 h14 [(a1, Jvm.RoadKit.slotOf Z zs0 "key2" zs1), (a1, Jvm.RoadKit.slotOf Z zs0 "value2" zs1), (a1, Jvm.RoadKit.slotOf Z zs0 "key1" zs1), (a1, Jvm.RoadKit.slotOf Z zs0 "value1" zs1)] := (((((own_Kp.refl h0 [(a1, Jvm.RoadKit.slotOf Z zs0 "key2" zs1), (a1, Jvm.RoadKit.slotOf Z zs0 "value2" zs1), (a1, Jvm.RoadKit.slotOf Z zs0 "key1" zs1), (a1, Jvm.RoadKit.slotOf Z zs0 "value1" zs1)]).trans K3 (own_allS (Or.inl (List.mem_of_getElem? (i := 0) rfl)) own_all0)).trans K8 (own_allS (Or.inl (List.mem_of_getElem? (i := 1) rfl)) own_all0)).trans K11 (own_allS (Or.inl (List.mem_of_getElem? (i := 2) rfl)) own_all0)).trans K14 (own_allS (Or.inl (List.mem_of_getElem? (i := 3) rfl)) own_all0))
  have F16 := (own_F (v := (.ref a2)) (own_F (v := (.ref a2)) (own_F (v := (.ref a2)) F3 K8 (own_nr (sl_42 hw) own_nin0)) K11 (own_nr (sl_17 hw) own_nin0)) K14 (own_nr (sl_43 hw) own_nin0))
  have F17 := (own_F (v := .null) (own_F (v := .null) F8 K11 (own_nr (sl_22 hw) own_nin0)) K14 (own_nr (sl_24 hw) own_nin0))
  have F18 := (own_F (v := (.ref a2)) F11 K14 (own_nr (sl_48 hw) own_nin0))
  exact own_ret0 Y14 hx hlk Bd.returns (hb hby d13_87) ⟨rfl, KC15, F16, F17, F18, F14⟩ (by decide) (by decide)
theorem d16_26 : decode prog_25_method_6_code 26 = .ok (.aload_n 0, 1) := by decide +kernel
theorem d16_27 : decode prog_25_method_6_code 27 = .ok (.aload_n 2, 1) := by decide +kernel
theorem d16_28 : decode prog_25_method_6_code 28 = .ok (.putfield 55, 3) := by decide +kernel
theorem d16_31 : decode prog_25_method_6_code 31 = .ok (.goto 37, 3) := by decide +kernel
def P16_43 (Z : State) (a1 : Addr) (a2 : Addr) (a3 : Addr) (h0 : Heap) (h : Heap) : Prop := own_Kp h0 h [(a1, Jvm.RoadKit.slotOf Z zs0 "child3" zs16), (a1, Jvm.RoadKit.slotOf Z zs0 "child2" zs16)] ∧ Fld Z h a1 zs0 "child3" zs16 (.ref a3) ∧ Fld Z h a1 zs0 "child2" zs16 (.ref a2)
theorem P16_43_sz {Z : State} {a1 : Addr} {a2 : Addr} {a3 : Addr} {h0 : Heap} : ∀ v h', (own_R none (P16_43 Z a1 a2 a3 h0)) v h' → Array.size h0 ≤ Array.size h' := by
  intro v h' q
  obtain ⟨-, K, -⟩ := q
  exact K.1
set_option maxRecDepth 65536 in
set_option maxHeartbeats 40000000 in
theorem rm16_43 (l : Launch) (Z : State) (a0 : Array Value) (hw : ∀ d ∈ tables_1, d.before a0 Z = true) (ws : List Jvm.Cond) (a1 : Addr) (a2 : Addr) (a3 : Addr) (h0 : Heap) (n0 : Nat) (Z0 : n0 ≤ Array.size h0) (P0 : Fld Z h0 a1 zs0 "child2" zs16 (.ref a3)) (P1 : Fld Z h0 a1 zs0 "child3" zs16 .null) (P2 : Exa Z h0 a1 zs0) (P3 : n0 ≤ a1) :
    MetFree l (⟨zs0, "insertChild", zs21⟩ : MethodName) (head1 (Jvm.Cond.code (⟨zs0, "insertChild", zs21⟩ : MethodName) prog_25_method_6_code 3 none :: ws) ({ frames := 0, cells := 0, slots := 0, locals := 0 } : Room)) (fun a U => a = #[(.ref a1), (.int (2 : Int32)), (.ref a2)] ∧ Z.Warmed39 U.vm ∧ U.heap = h0) (fun _ _ _ _ _ => True) (fun _ U o U' => ∃ v L, o = .returned v ∧ own_QQ n0 (own_R none (P16_43 Z a1 a2 a3 h0)) v U'.heap L ∧ FrameEnd U o U' L ({ frames := 0, cells := 0, slots := 0, locals := 0 } : Room).cells ({ frames := 0, cells := 0, slots := 0, locals := 0 } : Room).slots) := by
  refine MetFree.of_bodySF (plainFor_of_name pn_com_example_napkintree_napkintree_balancing_MultiwayTree_Node) hisR ?_
  intro p e s m args below meth c s₁ Bd hml0 hP hK
  obtain ⟨rfl, hZ, hh⟩ := hP
  have hx := Bd.exec
  have hby := Bd.bytes
  have hml : c.maxLocals = 3 := hml0
  have hown : s.vm.findClass zs0 = some m.cls := findClass_of_methodNamed Bd.named
  have hnm := (name_of_methodNamed Bd.named Bd.method).1
  have hlk : meth.locks = false := BodyLoose.notSynchronized Bd
  have Y0 : own_S p l e ({ frames := 0, cells := 0, slots := 0, locals := 0 } : Room) s m #[(.ref a1), (.int (2 : Int32)), (.ref a2)] below meth c n0 s₁ h0 0 0 := ⟨[], Stand.of_body Bd, Fr.nil n0, by rw [← hh, Bd.state]; rfl, Z0⟩
  refine (?_ : own_Fin p e below _ _)
  refine own_st (fun t k => castTop (ef_16_RIR m a1 (2 : Int32) a2) k) ?_
  refine own_iloadN Y0 hx (pc' := 1) (hb hby d16_0) rfl rfl ?_
  refine own_iconst Y0 hx (pc' := 2) (x := (3 : Int32)) (hb hby d16_1) rfl (by decide) ?_
  refine own_icmpYes Y0 hx (pc' := 13) (hb hby d16_2) (by decide) (by decide) (by decide) ?_
  refine own_aloadN Y0 hx (pc' := 14) (hb hby d16_13) rfl rfl rfl ?_
  refine own_aloadN Y0 hx (pc' := 15) (hb hby d16_14) rfl rfl rfl ?_
  refine own_getF Y0 hx (pc' := 18) (v := (.ref a3)) hZ hown (host := "") (Or.inl (own_w hw 123 rfl)) Via.refl P0 (hb hby d16_15) rfl (fun T1 Y1 => ?_)
  refine own_putF Y1 hx (pc' := 21) hZ hown (host := "") (Or.inl (own_w hw 124 rfl)) Via.refl P1 P2 (Or.inl (own_w hw 73 rfl)) (own_w hw 2 rfl) (ty := (.object zs0)) (by decide) rfl rfl P3 (hb hby d16_18) rfl (fun T2 h2 Y2 K2 F2 => ?_)
  refine own_iloadN Y2 hx (pc' := 22) (hb hby d16_21) rfl rfl ?_
  refine own_iconst Y2 hx (pc' := 23) (x := (2 : Int32)) (hb hby d16_22) rfl (by decide) ?_
  refine own_icmpNo Y2 hx (pc' := 26) (hb hby d16_23) rfl (by decide) ?_
  refine own_aloadN Y2 hx (pc' := 27) (hb hby d16_26) rfl rfl rfl ?_
  refine own_aloadN Y2 hx (pc' := 28) (hb hby d16_27) rfl rfl rfl ?_
  have F3 := (own_F (v := (.ref a3)) P0 K2 (own_nr (sl_77 hw) own_nin0))
  have F4 := (own_E P2 K2)
  refine own_putF Y2 hx (pc' := 31) hZ hown (host := "") (Or.inl (own_w hw 123 rfl)) Via.refl F3 F4 (Or.inl (own_w hw 71 rfl)) (own_w hw 2 rfl) (ty := (.object zs0)) (by decide) rfl rfl P3 (hb hby d16_28) rfl (fun T5 h5 Y5 K5 F5 => ?_)
  refine own_goto Y5 hx (pc' := 68) (hb hby d16_31) (by decide) (by decide) ?_
  have KC6 : own_Kp h0 h5 [(a1, Jvm.RoadKit.slotOf Z zs0 "child3" zs16), (a1, Jvm.RoadKit.slotOf Z zs0 "child2" zs16)] := (((own_Kp.refl h0 [(a1, Jvm.RoadKit.slotOf Z zs0 "child3" zs16), (a1, Jvm.RoadKit.slotOf Z zs0 "child2" zs16)]).trans K2 (own_allS (Or.inl (List.mem_of_getElem? (i := 0) rfl)) own_all0)).trans K5 (own_allS (Or.inl (List.mem_of_getElem? (i := 1) rfl)) own_all0))
  have F7 := (own_F (v := (.ref a3)) F2 K5 (own_nr (sl_10 hw) own_nin0))
  exact own_ret0 Y5 hx hlk Bd.returns (hb hby d16_68) ⟨rfl, KC6, F7, F5⟩ (by decide) (by decide)
def P12_44 (Z : State) (a1 : Addr) (a2 : Addr) (a3 : Addr) (a4 : Addr) (a5 : Addr) (h0 : Heap) (h : Heap) : Prop := own_Kp h0 h [(a1, Jvm.RoadKit.slotOf Z zs0 "key2" zs1), (a1, Jvm.RoadKit.slotOf Z zs0 "value2" zs1), (a1, Jvm.RoadKit.slotOf Z zs0 "key1" zs1), (a1, Jvm.RoadKit.slotOf Z zs0 "value1" zs1), (a1, Jvm.RoadKit.slotOf Z zs0 "child3" zs16), (a1, Jvm.RoadKit.slotOf Z zs0 "child2" zs16)] ∧ Fld Z h a1 zs0 "key2" zs1 (.ref a3) ∧ Fld Z h a1 zs0 "value2" zs1 .null ∧ Fld Z h a1 zs0 "key1" zs1 (.ref a3) ∧ Fld Z h a1 zs0 "value1" zs1 .null ∧ Fld Z h a1 zs0 "child3" zs16 (.ref a5) ∧ Fld Z h a1 zs0 "child2" zs16 (.ref a2)
theorem P12_44_sz {Z : State} {a1 : Addr} {a2 : Addr} {a3 : Addr} {a4 : Addr} {a5 : Addr} {h0 : Heap} : ∀ v h', (own_R none (P12_44 Z a1 a2 a3 a4 a5 h0)) v h' → Array.size h0 ≤ Array.size h' := by
  intro v h' q
  obtain ⟨-, K, -⟩ := q
  exact K.1
set_option maxRecDepth 65536 in
set_option maxHeartbeats 40000000 in
theorem rm12_44 (l : Launch) (Z : State) (a0 : Array Value) (hw : ∀ d ∈ tables_1, d.before a0 Z = true) (ws : List Jvm.Cond) (a1 : Addr) (a2 : Addr) (a3 : Addr) (a4 : Addr) (a5 : Addr) (h0 : Heap) (n0 : Nat) (Z0 : n0 ≤ Array.size h0) (P0 : Exa Z h0 a1 zs0) (P1 : Sta Z h0 zs0 "NULL_KEY" zs1 (.ref a3)) (P2 : Fld Z h0 a1 zs0 "key1" zs1 (.ref a3)) (P3 : Fld Z h0 a1 zs0 "key2" zs1 .null) (P4 : n0 ≤ a1) (P5 : Fld Z h0 a1 zs0 "value1" zs1 .null) (P6 : Fld Z h0 a1 zs0 "value2" zs1 .null) (P7 : Fld Z h0 a1 zs0 "child0" zs16 (.ref a4)) (P8 : Fld Z h0 a1 zs0 "child2" zs16 (.ref a5)) (P9 : Fld Z h0 a1 zs0 "child3" zs16 .null) :
    MetFree l (⟨zs0, "insert", zs22⟩ : MethodName) (head1 (Jvm.Cond.code (⟨zs0, "insert", zs22⟩ : MethodName) prog_25_method_2_code 6 none :: ws) ({ frames := 2, cells := 0, slots := 0, locals := 28 } : Room)) (fun a U => a = #[(.ref a1), (.int (1 : Int32)), .null, .null, (.int (2 : Int32)), (.ref a2)] ∧ Z.Warmed39 U.vm ∧ U.heap = h0) (fun _ _ _ _ _ => True) (fun _ U o U' => ∃ v L, o = .returned v ∧ own_QQ n0 (own_R none (P12_44 Z a1 a2 a3 a4 a5 h0)) v U'.heap L ∧ FrameEnd U o U' L ({ frames := 2, cells := 0, slots := 0, locals := 28 } : Room).cells ({ frames := 2, cells := 0, slots := 0, locals := 28 } : Room).slots) := by
  refine MetFree.of_bodySF (plainFor_of_name pn_com_example_napkintree_napkintree_balancing_MultiwayTree_Node) hisR ?_
  intro p e s m args below meth c s₁ Bd hml0 hP hK
  obtain ⟨rfl, hZ, hh⟩ := hP
  have hx := Bd.exec
  have hby := Bd.bytes
  have hml : c.maxLocals = 6 := hml0
  have hown : s.vm.findClass zs0 = some m.cls := findClass_of_methodNamed Bd.named
  have hnm := (name_of_methodNamed Bd.named Bd.method).1
  have hlk : meth.locks = false := BodyLoose.notSynchronized Bd
  have Y0 : own_S p l e ({ frames := 2, cells := 0, slots := 0, locals := 28 } : Room) s m #[(.ref a1), (.int (1 : Int32)), .null, .null, (.int (2 : Int32)), (.ref a2)] below meth c n0 s₁ h0 0 0 := ⟨[], Stand.of_body Bd, Fr.nil n0, by rw [← hh, Bd.state]; rfl, Z0⟩
  refine (?_ : own_Fin p e below _ _)
  refine own_st (fun t k => castTop (ef_12_RINNIR m a1 (1 : Int32) (2 : Int32) a2) k) ?_
  refine own_aloadN Y0 hx (pc' := 1) (hb hby d12_0) rfl rfl rfl ?_
  refine own_iloadN Y0 hx (pc' := 2) (hb hby d12_1) rfl rfl ?_
  refine own_aloadN Y0 hx (pc' := 3) (hb hby d12_2) rfl rfl rfl ?_
  refine own_aloadN Y0 hx (pc' := 4) (hb hby d12_3) rfl rfl rfl ?_
  refine own_virtual Y0 hx (pc' := 7) (W := 0) (cl' := 0) (sl' := 0) (as' := [(.int (1 : Int32)), .null, .null]) (S' := []) (a := a1) hZ hown (own_w hw 102 rfl) (own_w hw 103 rfl) (notFace_of_selects (args := #[]) (mvT hZ (own_w hw 105 rfl))) (own_w hw 105 rfl) (own_w hw 104 rfl) (own_w hw 3 rfl) (own_w hw 106 rfl) (by decide) P0 (rm13_42 l Z a0 hw [] a1 a3 h0 n0 (own_sz Y0) P1 P2 P3 P0 P4 P5 P6) (hb hby d12_4) rfl (by rw [hml]; rfl) rfl (lenOf pd__ILjava_lang_Object_Ljava_lang_Object__V rfl) rfl (by decide) (by decide) rfl rfl (by decide) (by decide) P13_42_sz (own_fixR (S2 := []) rfl (fun T1 h1 Y1 R1 => ?_))
  obtain ⟨K1, G1_0, G1_1, G1_2, G1_3⟩ := R1
  refine own_aloadN Y1 hx (pc' := 8) (hb hby d12_7) rfl rfl rfl ?_
  have F3 := (own_E P0 K1)
  have F4 := (own_F (v := (.ref a4)) P7 K1 (own_nr (sl_54 hw) (own_nr (sl_55 hw) (own_nr (sl_56 hw) (own_nr (sl_57 hw) own_nin0)))))
  refine own_virtual Y1 hx (pc' := 11) (W := 0) (cl' := 0) (sl' := 0) (as' := []) (S' := []) (a := a1) hZ hown (own_w hw 114 rfl) (own_w hw 115 rfl) (notFace_of_selects (args := #[]) (mvT hZ (own_w hw 117 rfl))) (own_w hw 117 rfl) (own_w hw 116 rfl) (own_w hw 3 rfl) (own_w hw 118 rfl) (by decide) F3 (rm15_11 l Z a0 hw [] a1 a4 h1 n0 (own_sz Y1) F4) (hb hby d12_8) rfl (by rw [hml]; rfl) rfl (lenOf pd___Z rfl) rfl (by decide) (by decide) rfl rfl (by decide) (by decide) own_Same.sz (own_fixS (S2 := [(.int (0 : Int32))]) rfl (fun T2 Y2 => ?_))
  refine own_ifNo Y2 hx (pc' := 14) (hb hby d12_11) rfl (by decide) ?_
  refine own_aloadN Y2 hx (pc' := 15) (hb hby d12_14) rfl rfl rfl ?_
  refine own_iload Y2 hx (pc' := 17) (hb hby d12_15) rfl rfl ?_
  refine own_aload Y2 hx (pc' := 19) (hb hby d12_17) rfl rfl rfl ?_
  have F6 := (own_F (v := (.ref a5)) P8 K1 (own_nr (sl_59 hw) (own_nr (sl_60 hw) (own_nr (sl_61 hw) (own_nr (sl_62 hw) own_nin0)))))
  have F7 := (own_F (v := .null) P9 K1 (own_nr (sl_66 hw) (own_nr (sl_67 hw) (own_nr (sl_68 hw) (own_nr (sl_69 hw) own_nin0)))))
  refine own_private Y2 hx (pc' := 22) (W := 0) (cl' := 0) (sl' := 0) (as' := [(.int (2 : Int32)), (.ref a2)]) (S' := []) (a := a1) hZ hown (own_w hw 119 rfl) (own_w hw 120 rfl) (own_selP hZ (own_nfI (own_w hw 2 rfl)) (own_w hw 121 rfl) (own_w hw 120 rfl) (by decide)) (own_w hw 121 rfl) (own_w hw 3 rfl) (own_w hw 122 rfl) (by decide) F3 (rm16_43 l Z a0 hw [] a1 a2 a5 h1 n0 (own_sz Y2) F6 F7 F3 P4) (hb hby d12_19) rfl (by rw [hml]; rfl) rfl (lenOf pd__ILcom_example_napkintree_napkintree_balancing_MultiwayTree_Node__V rfl) rfl (by decide) (by decide) rfl rfl (by decide) (by decide) P16_43_sz (own_fixR (S2 := []) rfl (fun T5 h5 Y5 R5 => ?_))
  obtain ⟨K5, G5_0, G5_1⟩ := R5
  have KC8 : own_Kp h0 h5 [(a1, Jvm.RoadKit.slotOf Z zs0 "key2" zs1), (a1, Jvm.RoadKit.slotOf Z zs0 "value2" zs1), (a1, Jvm.RoadKit.slotOf Z zs0 "key1" zs1), (a1, Jvm.RoadKit.slotOf Z zs0 "value1" zs1), (a1, Jvm.RoadKit.slotOf Z zs0 "child3" zs16), (a1, Jvm.RoadKit.slotOf Z zs0 "child2" zs16)] := (((own_Kp.refl h0 [(a1, Jvm.RoadKit.slotOf Z zs0 "key2" zs1), (a1, Jvm.RoadKit.slotOf Z zs0 "value2" zs1), (a1, Jvm.RoadKit.slotOf Z zs0 "key1" zs1), (a1, Jvm.RoadKit.slotOf Z zs0 "value1" zs1), (a1, Jvm.RoadKit.slotOf Z zs0 "child3" zs16), (a1, Jvm.RoadKit.slotOf Z zs0 "child2" zs16)]).trans K1 (own_allS (Or.inl (List.mem_of_getElem? (i := 0) rfl)) (own_allS (Or.inl (List.mem_of_getElem? (i := 1) rfl)) (own_allS (Or.inl (List.mem_of_getElem? (i := 2) rfl)) (own_allS (Or.inl (List.mem_of_getElem? (i := 3) rfl)) own_all0))))).trans K5 (own_allS (Or.inl (List.mem_of_getElem? (i := 4) rfl)) (own_allS (Or.inl (List.mem_of_getElem? (i := 5) rfl)) own_all0)))
  have F9 := (own_F (v := (.ref a3)) G1_0 K5 (own_nr (sl_16 hw) (own_nr (sl_15 hw) own_nin0)))
  have F10 := (own_F (v := .null) G1_1 K5 (own_nr (sl_21 hw) (own_nr (sl_20 hw) own_nin0)))
  have F11 := (own_F (v := (.ref a3)) G1_2 K5 (own_nr (sl_12 hw) (own_nr (sl_11 hw) own_nin0)))
  have F12 := (own_F (v := .null) G1_3 K5 (own_nr (sl_14 hw) (own_nr (sl_13 hw) own_nin0)))
  exact own_ret0 Y5 hx hlk Bd.returns (hb hby d12_22) ⟨rfl, KC8, F9, F10, F11, F12, G5_0, G5_1⟩ (by decide) (by decide)
def P7_45 (Z : State) (a1 : Addr) (a2 : Addr) (a3 : Addr) (a4 : Addr) (a5 : Addr) (a6 : Addr) (a7 : Addr) (a8 : Addr) (h0 : Heap) (h : Heap) : Prop := ∃ b2 : Addr, own_Kp h0 h [(a3, Jvm.RoadKit.slotOf Z zs0 "child2" zs16), (a3, Jvm.RoadKit.slotOf Z zs0 "child3" zs16), (a3, Jvm.RoadKit.slotOf Z zs0 "key1" zs1), (a3, Jvm.RoadKit.slotOf Z zs0 "key2" zs1), (a3, Jvm.RoadKit.slotOf Z zs0 "value1" zs1), (a3, Jvm.RoadKit.slotOf Z zs0 "value2" zs1), (a2, Jvm.RoadKit.slotOf Z zs0 "key2" zs1), (a2, Jvm.RoadKit.slotOf Z zs0 "value2" zs1), (a2, Jvm.RoadKit.slotOf Z zs0 "key1" zs1), (a2, Jvm.RoadKit.slotOf Z zs0 "value1" zs1), (a2, Jvm.RoadKit.slotOf Z zs0 "child3" zs16), (a2, Jvm.RoadKit.slotOf Z zs0 "child2" zs16), (a3, Jvm.RoadKit.slotOf Z zs0 "mark" "I"), (a2, Jvm.RoadKit.slotOf Z zs0 "mark" "I")] ∧ Array.size h0 ≤ b2 ∧ Fld Z h a3 zs0 "child2" zs16 .null ∧ Fld Z h a3 zs0 "child3" zs16 .null ∧ Fld Z h a3 zs0 "key1" zs1 .null ∧ Fld Z h a3 zs0 "key2" zs1 .null ∧ Fld Z h a3 zs0 "value1" zs1 .null ∧ Fld Z h a3 zs0 "value2" zs1 .null ∧ Fld Z h a2 zs0 "key2" zs1 (.ref a4) ∧ Fld Z h a2 zs0 "value2" zs1 .null ∧ Fld Z h a2 zs0 "key1" zs1 (.ref a4) ∧ Fld Z h a2 zs0 "value1" zs1 .null ∧ Fld Z h a2 zs0 "child3" zs16 (.ref a6) ∧ Fld Z h a2 zs0 "child2" zs16 (.ref b2) ∧ Fld Z h a3 zs0 "mark" "I" (.int (2 : Int32)) ∧ Fld Z h a2 zs0 "mark" "I" (.int (1 : Int32)) ∧ Exa Z h b2 zs0 ∧ Fld Z h b2 zs0 "child0" zs16 .null ∧ Fld Z h b2 zs0 "key2" zs1 .null ∧ Fld Z h b2 zs0 "key0" zs1 .null ∧ Fld Z h b2 zs0 "value2" zs1 .null ∧ Fld Z h b2 zs0 "value0" zs1 .null ∧ Fld Z h b2 zs0 "child2" zs16 .null ∧ Fld Z h b2 zs0 "child3" zs16 .null ∧ Fld Z h b2 zs0 "child1" zs16 .null ∧ Fld Z h b2 zs0 "key1" zs1 .null ∧ Fld Z h b2 zs0 "value1" zs1 .null ∧ Fld Z h b2 zs0 "mark" "I" (.int (2 : Int32))
theorem P7_45_sz {Z : State} {a1 : Addr} {a2 : Addr} {a3 : Addr} {a4 : Addr} {a5 : Addr} {a6 : Addr} {a7 : Addr} {a8 : Addr} {h0 : Heap} : ∀ v h', (own_R none (P7_45 Z a1 a2 a3 a4 a5 a6 a7 a8 h0)) v h' → Array.size h0 ≤ Array.size h' := by
  intro v h' q
  obtain ⟨-, _, K, -⟩ := q
  exact K.1
set_option maxRecDepth 65536 in
set_option maxHeartbeats 40000000 in
theorem rm7_45 (l : Launch) (Z : State) (a0 : Array Value) (hw : ∀ d ∈ tables_1, d.before a0 Z = true) (ws : List Jvm.Cond) (a1 : Addr) (a2 : Addr) (a3 : Addr) (a4 : Addr) (a5 : Addr) (a6 : Addr) (a7 : Addr) (a8 : Addr) (h0 : Heap) (n0 : Nat) (Z0 : n0 ≤ Array.size h0) (P0 : Exa Z h0 a2 zs0) (P1 : Fld Z h0 a2 zs0 "child1" zs16 (.ref a3)) (P2 : Fld Z h0 a3 zs0 "key2" zs1 .null) (P3 : Fld Z h0 a3 zs0 "value2" zs1 .null) (P4 : Exa Z h0 a3 zs0) (P5 : Fld Z h0 a3 zs0 "child2" zs16 .null) (P6 : Fld Z h0 a3 zs0 "child3" zs16 .null) (P7 : n0 ≤ a3) (P8 : Fld Z h0 a3 zs0 "key1" zs1 .null) (P9 : Sta Z h0 zs0 "NULL_KEY" zs1 (.ref a4)) (P10 : Fld Z h0 a3 zs0 "value1" zs1 .null) (P11 : Fld Z h0 a2 zs0 "key1" zs1 (.ref a4)) (P12 : a2 ≠ a3) (P13 : Fld Z h0 a2 zs0 "key2" zs1 .null) (P14 : n0 ≤ a2) (P15 : Fld Z h0 a2 zs0 "value1" zs1 .null) (P16 : Fld Z h0 a2 zs0 "value2" zs1 .null) (P17 : Fld Z h0 a2 zs0 "child0" zs16 (.ref a5)) (P18 : Fld Z h0 a2 zs0 "child2" zs16 (.ref a6)) (P19 : Fld Z h0 a2 zs0 "child3" zs16 .null) (P20 : Sta Z h0 zs3 "SPLIT" zs4 (.ref a7)) (P21 : Exa Z h0 a1 zs9) (P22 : Fld Z h0 a1 zs7 "shapeCount" "I" (.int (0 : Int32))) (P23 : Sta Z h0 zs6 "MARK_BITS" "I" (.int (2 : Int32))) (P24 : Exa Z h0 a7 zs3) (P25 : Fld Z h0 a7 zs5 "ordinal" "I" (.int (1 : Int32))) (P26 : Fld Z h0 a3 zs0 "mark" "I" (.int (2 : Int32))) (P27 : Sta Z h0 zs3 "ABSORBED" zs4 (.ref a8)) (P28 : Exa Z h0 a8 zs3) (P29 : Fld Z h0 a8 zs5 "ordinal" "I" (.int (0 : Int32))) (P30 : Fld Z h0 a2 zs0 "mark" "I" (.int (1 : Int32))) :
    MetFree l (⟨zs6, "splitChild", zs24⟩ : MethodName) (head1 (Jvm.Cond.code (⟨zs6, "splitChild", zs24⟩ : MethodName) prog_24_method_6_code 7 none :: ws) ({ frames := 3, cells := 1, slots := 11, locals := 45 } : Room)) (fun a U => a = #[(.ref a1), (.ref a2), (.int (1 : Int32))] ∧ Z.Warmed39 U.vm ∧ U.heap = h0) (fun _ _ _ _ _ => True) (fun _ U o U' => ∃ v L, o = .returned v ∧ own_QQ n0 (own_R none (P7_45 Z a1 a2 a3 a4 a5 a6 a7 a8 h0)) v U'.heap L ∧ FrameEnd U o U' L ({ frames := 3, cells := 1, slots := 11, locals := 45 } : Room).cells ({ frames := 3, cells := 1, slots := 11, locals := 45 } : Room).slots) := by
  refine MetFree.of_bodySF (plainFor_of_name pn_com_example_napkintree_napkintree_balancing_MultiwayTree) hisR ?_
  intro p e s m args below meth c s₁ Bd hml0 hP hK
  obtain ⟨rfl, hZ, hh⟩ := hP
  have hx := Bd.exec
  have hby := Bd.bytes
  have hml : c.maxLocals = 7 := hml0
  have hown : s.vm.findClass zs6 = some m.cls := findClass_of_methodNamed Bd.named
  have hnm := (name_of_methodNamed Bd.named Bd.method).1
  have hlk : meth.locks = false := BodyLoose.notSynchronized Bd
  have Y0 : own_S p l e ({ frames := 3, cells := 1, slots := 11, locals := 45 } : Room) s m #[(.ref a1), (.ref a2), (.int (1 : Int32))] below meth c n0 s₁ h0 0 0 := ⟨[], Stand.of_body Bd, Fr.nil n0, by rw [← hh, Bd.state]; rfl, Z0⟩
  refine (?_ : own_Fin p e below _ _)
  refine own_st (fun t k => castTop (ef_7_RRI m a1 a2 (1 : Int32)) k) ?_
  refine own_aloadN Y0 hx (pc' := 1) (hb hby d7_0) rfl rfl rfl ?_
  refine own_iloadN Y0 hx (pc' := 2) (hb hby d7_1) rfl rfl ?_
  refine own_virtual Y0 hx (pc' := 5) (W := 0) (cl' := 0) (sl' := 0) (as' := [(.int (1 : Int32))]) (S' := []) (a := a2) hZ hown (own_w hw 56 rfl) (own_w hw 57 rfl) (notFace_of_selects (args := #[]) (mvT hZ (own_w hw 59 rfl))) (own_w hw 59 rfl) (own_w hw 58 rfl) (own_w hw 3 rfl) (own_w hw 60 rfl) (by decide) P0 (rm8_36 l Z a0 hw [] a2 a3 h0 n0 (own_sz Y0) P1) (hb hby d7_2) rfl (by rw [hml]; rfl) rfl (lenOf pd__I_Lcom_example_napkintree_napkintree_balancing_MultiwayTree_Node_ rfl) rfl (by decide) (by decide) rfl rfl (by decide) (by decide) own_Same.sz (own_fixS (S2 := [(.ref a3)]) rfl (fun T1 Y1 => ?_))
  refine own_astoreN Y1 hx (pc' := 6) (Ls' := #[.val (.ref a1), .val (.ref a2), .val (.int (1 : Int32)), .val (.ref a3), .unset, .unset, .unset]) (hb hby d7_5) rfl rfl rfl ?_
  refine own_new Y1 hx (pc' := 9) (cl' := 1) (sl' := 11) hZ hown (own_w hw 44 rfl) (own_w hw 2 rfl) (own_w hw 3 rfl) (hb hby d7_6) rfl rfl rfl (by decide) (by decide) (fun T2 h2 b2 Y2 K2 le2 E2 D2 => ?_)
  refine own_dup Y2 hx (pc' := 10) (hb hby d7_9) rfl rfl ?_
  refine own_special Y2 hx (pc' := 13) (W := 1) (cl' := 1) (sl' := 11) (as' := []) (S' := [(.ref b2)]) (a := b2) rfl hZ hown (own_w hw 45 rfl) (own_w hw 5 rfl) (own_w hw 3 rfl) (own_w hw 6 rfl) (by decide) (rm1_1 l Z a0 hw [] b2 h2 n0 (own_sz Y2)) (hb hby d7_10) rfl (by rw [hml]; rfl) rfl (lenOf pd___V rfl) rfl (by decide) (by decide) rfl rfl (by decide) (by decide) own_Same.sz (own_fixS (S2 := [(.ref b2)]) rfl (fun T3 Y3 => ?_))
  refine own_astore Y3 hx (pc' := 15) (Ls' := #[.val (.ref a1), .val (.ref a2), .val (.int (1 : Int32)), .val (.ref a3), .val (.ref b2), .unset, .unset]) (hb hby d7_13) rfl rfl rfl ?_
  refine own_aload Y3 hx (pc' := 17) (hb hby d7_15) rfl rfl rfl ?_
  refine own_aloadN Y3 hx (pc' := 18) (hb hby d7_17) rfl rfl rfl ?_
  have F4 := (own_F (v := .null) P2 K2 own_nin0)
  refine own_getF Y3 hx (pc' := 21) (v := .null) hZ hown (Or.inr (own_w hw 62 rfl)) Via.refl F4 (hb hby d7_18) rfl (fun T5 Y5 => ?_)
  refine own_putF Y5 hx (pc' := 24) hZ hown (Or.inr (own_w hw 64 rfl)) Via.refl (D2 (Or.inl (own_w hw 65 rfl)) (ty := (.object zs2)) (by decide)) E2 (Or.inl (own_w hw 65 rfl)) (own_w hw 2 rfl) (ty := (.object zs2)) (by decide) rfl rfl (Nat.le_trans Z0 le2) (hb hby d7_21) rfl (fun T6 h6 Y6 K6 F6 => ?_)
  refine own_aload Y6 hx (pc' := 26) (hb hby d7_24) rfl rfl rfl ?_
  refine own_aloadN Y6 hx (pc' := 27) (hb hby d7_26) rfl rfl rfl ?_
  have D7 : a3 ≠ b2 := (Nat.ne_of_lt (Nat.lt_of_lt_of_le P4.lt le2))
  have F8 := (own_F (v := .null) (own_F (v := .null) P3 K2 own_nin0) K6 (own_nl D7 own_nin0))
  refine own_getF Y6 hx (pc' := 30) (v := .null) hZ hown (Or.inr (own_w hw 66 rfl)) Via.refl F8 (hb hby d7_27) rfl (fun T9 Y9 => ?_)
  have F10 := (own_F (v := .null) (D2 (Or.inl (own_w hw 69 rfl)) (ty := (.object zs2)) (by decide)) K6 (own_nr (sl_4 hw) own_nin0))
  have F11 := (own_E E2 K6)
  refine own_putF Y9 hx (pc' := 33) hZ hown (Or.inr (own_w hw 68 rfl)) Via.refl F10 F11 (Or.inl (own_w hw 69 rfl)) (own_w hw 2 rfl) (ty := (.object zs2)) (by decide) rfl rfl (Nat.le_trans Z0 le2) (hb hby d7_30) rfl (fun T12 h12 Y12 K12 F12 => ?_)
  refine own_aload Y12 hx (pc' := 35) (hb hby d7_33) rfl rfl rfl ?_
  refine own_aloadN Y12 hx (pc' := 36) (hb hby d7_35) rfl rfl rfl ?_
  have F13 := (own_F (v := .null) (own_F (v := .null) (own_F (v := .null) P5 K2 own_nin0) K6 (own_nl D7 own_nin0)) K12 (own_nl D7 own_nin0))
  refine own_getF Y12 hx (pc' := 39) (v := .null) hZ hown (Or.inr (own_w hw 70 rfl)) Via.refl F13 (hb hby d7_36) rfl (fun T14 Y14 => ?_)
  have F15 := (own_F (v := .null) (own_F (v := .null) (D2 (Or.inl (own_w hw 50 rfl)) (ty := (.object zs0)) (by decide)) K6 (own_nr (sl_5 hw) own_nin0)) K12 (own_nr (sl_6 hw) own_nin0))
  have F16 := (own_E F11 K12)
  refine own_putF Y14 hx (pc' := 42) hZ hown (Or.inr (own_w hw 49 rfl)) Via.refl F15 F16 (Or.inl (own_w hw 50 rfl)) (own_w hw 2 rfl) (ty := (.object zs0)) (by decide) rfl rfl (Nat.le_trans Z0 le2) (hb hby d7_39) rfl (fun T17 h17 Y17 K17 F17 => ?_)
  refine own_aload Y17 hx (pc' := 44) (hb hby d7_42) rfl rfl rfl ?_
  refine own_aloadN Y17 hx (pc' := 45) (hb hby d7_44) rfl rfl rfl ?_
  have F18 := (own_F (v := .null) (own_F (v := .null) (own_F (v := .null) (own_F (v := .null) P6 K2 own_nin0) K6 (own_nl D7 own_nin0)) K12 (own_nl D7 own_nin0)) K17 (own_nl D7 own_nin0))
  refine own_getF Y17 hx (pc' := 48) (v := .null) hZ hown (Or.inr (own_w hw 72 rfl)) Via.refl F18 (hb hby d7_45) rfl (fun T19 Y19 => ?_)
  have F20 := (own_F (v := .null) (own_F (v := .null) (own_F (v := .null) (D2 (Or.inl (own_w hw 75 rfl)) (ty := (.object zs0)) (by decide)) K6 (own_nr (sl_7 hw) own_nin0)) K12 (own_nr (sl_8 hw) own_nin0)) K17 (own_nr (sl_9 hw) own_nin0))
  have F21 := (own_E F16 K17)
  refine own_putF Y19 hx (pc' := 51) hZ hown (Or.inr (own_w hw 74 rfl)) Via.refl F20 F21 (Or.inl (own_w hw 75 rfl)) (own_w hw 2 rfl) (ty := (.object zs0)) (by decide) rfl rfl (Nat.le_trans Z0 le2) (hb hby d7_48) rfl (fun T22 h22 Y22 K22 F22 => ?_)
  refine own_aloadN Y22 hx (pc' := 52) (hb hby d7_51) rfl rfl rfl ?_
  refine own_aconstNull Y22 hx (pc' := 53) (hb hby d7_52) rfl ?_
  have F23 := (own_F (v := .null) (own_F (v := .null) F13 K17 (own_nl D7 own_nin0)) K22 (own_nl D7 own_nin0))
  have F24 := (own_E (own_E (own_E (own_E (own_E P4 K2) K6) K12) K17) K22)
  refine own_putF Y22 hx (pc' := 56) hZ hown (Or.inr (own_w hw 70 rfl)) Via.refl F23 F24 (Or.inl (own_w hw 71 rfl)) (own_w hw 2 rfl) (ty := (.object zs0)) (by decide) rfl rfl P7 (hb hby d7_53) rfl (fun T25 h25 Y25 K25 F25 => ?_)
  refine own_aloadN Y25 hx (pc' := 57) (hb hby d7_56) rfl rfl rfl ?_
  refine own_aconstNull Y25 hx (pc' := 58) (hb hby d7_57) rfl ?_
  have F26 := (own_F (v := .null) (own_F (v := .null) F18 K22 (own_nl D7 own_nin0)) K25 (own_nr (sl_10 hw) own_nin0))
  have F27 := (own_E F24 K25)
  refine own_putF Y25 hx (pc' := 61) hZ hown (Or.inr (own_w hw 72 rfl)) Via.refl F26 F27 (Or.inl (own_w hw 73 rfl)) (own_w hw 2 rfl) (ty := (.object zs0)) (by decide) rfl rfl P7 (hb hby d7_58) rfl (fun T28 h28 Y28 K28 F28 => ?_)
  refine own_aloadN Y28 hx (pc' := 62) (hb hby d7_61) rfl rfl rfl ?_
  refine own_iconst Y28 hx (pc' := 63) (x := (1 : Int32)) (hb hby d7_62) rfl (by decide) ?_
  have F30 := (own_E F27 K28)
  have F31 := (own_F (v := .null) (own_F (v := .null) (own_F (v := .null) (own_F (v := .null) (own_F (v := .null) (own_F (v := .null) (own_F (v := .null) P8 K2 own_nin0) K6 (own_nl D7 own_nin0)) K12 (own_nl D7 own_nin0)) K17 (own_nl D7 own_nin0)) K22 (own_nl D7 own_nin0)) K25 (own_nr (sl_11 hw) own_nin0)) K28 (own_nr (sl_12 hw) own_nin0))
  have F32 := (own_St (own_St (own_St (own_St (own_St (own_St (own_St P9 K2 own_all0) K6 (own_allS (own_plain E2) own_all0)) K12 (own_allS (own_plain F11) own_all0)) K17 (own_allS (own_plain F16) own_all0)) K22 (own_allS (own_plain F21) own_all0)) K25 (own_allS (own_plain F24) own_all0)) K28 (own_allS (own_plain F27) own_all0))
  refine own_virtual Y28 hx (pc' := 66) (W := 0) (cl' := 1) (sl' := 11) (as' := [(.int (1 : Int32))]) (S' := []) (a := a3) hZ hown (own_w hw 76 rfl) (own_w hw 77 rfl) (notFace_of_selects (args := #[]) (mvT hZ (own_w hw 79 rfl))) (own_w hw 79 rfl) (own_w hw 78 rfl) (own_w hw 3 rfl) (own_w hw 80 rfl) (by decide) F30 (rm9_7 l Z a0 hw [] a3 a4 h28 n0 (own_sz Y28) F31 F32) (hb hby d7_63) rfl (by rw [hml]; rfl) rfl (lenOf pd__I_Ljava_lang_Object_ rfl) rfl (by decide) (by decide) rfl rfl (by decide) (by decide) own_Same.sz (own_fixS (S2 := [.null]) rfl (fun T29 Y29 => ?_))
  refine own_astore Y29 hx (pc' := 68) (Ls' := #[.val (.ref a1), .val (.ref a2), .val (.int (1 : Int32)), .val (.ref a3), .val (.ref b2), .val .null, .unset]) (hb hby d7_66) rfl rfl rfl ?_
  refine own_aloadN Y29 hx (pc' := 69) (hb hby d7_68) rfl rfl rfl ?_
  refine own_iconst Y29 hx (pc' := 70) (x := (1 : Int32)) (hb hby d7_69) rfl (by decide) ?_
  have F34 := (own_F (v := .null) (own_F (v := .null) (own_F (v := .null) (own_F (v := .null) (own_F (v := .null) (own_F (v := .null) (own_F (v := .null) P10 K2 own_nin0) K6 (own_nl D7 own_nin0)) K12 (own_nl D7 own_nin0)) K17 (own_nl D7 own_nin0)) K22 (own_nl D7 own_nin0)) K25 (own_nr (sl_13 hw) own_nin0)) K28 (own_nr (sl_14 hw) own_nin0))
  refine own_virtual Y29 hx (pc' := 73) (W := 0) (cl' := 1) (sl' := 11) (as' := [(.int (1 : Int32))]) (S' := []) (a := a3) hZ hown (own_w hw 88 rfl) (own_w hw 89 rfl) (notFace_of_selects (args := #[]) (mvT hZ (own_w hw 91 rfl))) (own_w hw 91 rfl) (own_w hw 90 rfl) (own_w hw 3 rfl) (own_w hw 92 rfl) (by decide) F30 (rm11_8 l Z a0 hw [] a3 h28 n0 (own_sz Y29) F34) (hb hby d7_70) rfl (by rw [hml]; rfl) rfl (lenOf pd__I_Ljava_lang_Object_ rfl) rfl (by decide) (by decide) rfl rfl (by decide) (by decide) own_Same.sz (own_fixS (S2 := [.null]) rfl (fun T33 Y33 => ?_))
  refine own_astore Y33 hx (pc' := 75) (Ls' := #[.val (.ref a1), .val (.ref a2), .val (.int (1 : Int32)), .val (.ref a3), .val (.ref b2), .val .null, .val .null]) (hb hby d7_73) rfl rfl rfl ?_
  refine own_aloadN Y33 hx (pc' := 76) (hb hby d7_75) rfl rfl rfl ?_
  refine own_aconstNull Y33 hx (pc' := 77) (hb hby d7_76) rfl ?_
  refine own_putF Y33 hx (pc' := 80) hZ hown (Or.inr (own_w hw 95 rfl)) Via.refl F31 F30 (Or.inl (own_w hw 82 rfl)) (own_w hw 2 rfl) (ty := (.object zs2)) (by decide) rfl rfl P7 (hb hby d7_77) rfl (fun T35 h35 Y35 K35 F35 => ?_)
  refine own_aloadN Y35 hx (pc' := 81) (hb hby d7_80) rfl rfl rfl ?_
  refine own_aconstNull Y35 hx (pc' := 82) (hb hby d7_81) rfl ?_
  have F36 := (own_F (v := .null) (own_F (v := .null) (own_F (v := .null) (own_F (v := .null) (own_F (v := .null) (own_F (v := .null) (own_F (v := .null) F4 K6 (own_nl D7 own_nin0)) K12 (own_nl D7 own_nin0)) K17 (own_nl D7 own_nin0)) K22 (own_nl D7 own_nin0)) K25 (own_nr (sl_15 hw) own_nin0)) K28 (own_nr (sl_16 hw) own_nin0)) K35 (own_nr (sl_17 hw) own_nin0))
  have F37 := (own_E F30 K35)
  refine own_putF Y35 hx (pc' := 85) hZ hown (Or.inr (own_w hw 62 rfl)) Via.refl F36 F37 (Or.inl (own_w hw 63 rfl)) (own_w hw 2 rfl) (ty := (.object zs2)) (by decide) rfl rfl P7 (hb hby d7_82) rfl (fun T38 h38 Y38 K38 F38 => ?_)
  refine own_aloadN Y38 hx (pc' := 86) (hb hby d7_85) rfl rfl rfl ?_
  refine own_aconstNull Y38 hx (pc' := 87) (hb hby d7_86) rfl ?_
  have F39 := (own_F (v := .null) (own_F (v := .null) F34 K35 (own_nr (sl_18 hw) own_nin0)) K38 (own_nr (sl_19 hw) own_nin0))
  have F40 := (own_E F37 K38)
  refine own_putF Y38 hx (pc' := 90) hZ hown (Or.inr (own_w hw 96 rfl)) Via.refl F39 F40 (Or.inl (own_w hw 94 rfl)) (own_w hw 2 rfl) (ty := (.object zs2)) (by decide) rfl rfl P7 (hb hby d7_87) rfl (fun T41 h41 Y41 K41 F41 => ?_)
  refine own_aloadN Y41 hx (pc' := 91) (hb hby d7_90) rfl rfl rfl ?_
  refine own_aconstNull Y41 hx (pc' := 92) (hb hby d7_91) rfl ?_
  have F42 := (own_F (v := .null) (own_F (v := .null) (own_F (v := .null) (own_F (v := .null) (own_F (v := .null) (own_F (v := .null) (own_F (v := .null) (own_F (v := .null) F8 K12 (own_nl D7 own_nin0)) K17 (own_nl D7 own_nin0)) K22 (own_nl D7 own_nin0)) K25 (own_nr (sl_20 hw) own_nin0)) K28 (own_nr (sl_21 hw) own_nin0)) K35 (own_nr (sl_22 hw) own_nin0)) K38 (own_nr (sl_23 hw) own_nin0)) K41 (own_nr (sl_24 hw) own_nin0))
  have F43 := (own_E F40 K41)
  refine own_putF Y41 hx (pc' := 95) hZ hown (Or.inr (own_w hw 66 rfl)) Via.refl F42 F43 (Or.inl (own_w hw 67 rfl)) (own_w hw 2 rfl) (ty := (.object zs2)) (by decide) rfl rfl P7 (hb hby d7_92) rfl (fun T44 h44 Y44 K44 F44 => ?_)
  refine own_aloadN Y44 hx (pc' := 96) (hb hby d7_95) rfl rfl rfl ?_
  refine own_iloadN Y44 hx (pc' := 97) (hb hby d7_96) rfl rfl ?_
  refine own_aload Y44 hx (pc' := 99) (hb hby d7_97) rfl rfl rfl ?_
  refine own_aload Y44 hx (pc' := 101) (hb hby d7_99) rfl rfl rfl ?_
  refine own_iloadN Y44 hx (pc' := 102) (hb hby d7_101) rfl rfl ?_
  refine own_iconst Y44 hx (pc' := 103) (x := (1 : Int32)) (hb hby d7_102) rfl (by decide) ?_
  refine own_iadd Y44 hx (pc' := 104) (hb hby d7_103) rfl (z := (2 : Int32)) (by decide) ?_
  refine own_aload Y44 hx (pc' := 106) (hb hby d7_104) rfl rfl rfl ?_
  have F46 := (own_E (own_E (own_E (own_E (own_E (own_E (own_E (own_E (own_E (own_E (own_E P0 K2) K6) K12) K17) K22) K25) K28) K35) K38) K41) K44)
  have F47 := (own_St (own_St (own_St (own_St F32 K35 (own_allS (own_plain F30) own_all0)) K38 (own_allS (own_plain F37) own_all0)) K41 (own_allS (own_plain F40) own_all0)) K44 (own_allS (own_plain F43) own_all0))
  have D48 : a2 ≠ b2 := (Nat.ne_of_lt (Nat.lt_of_lt_of_le P0.lt le2))
  have F49 := (own_F (v := (.ref a4)) (own_F (v := (.ref a4)) (own_F (v := (.ref a4)) (own_F (v := (.ref a4)) (own_F (v := (.ref a4)) (own_F (v := (.ref a4)) (own_F (v := (.ref a4)) (own_F (v := (.ref a4)) (own_F (v := (.ref a4)) (own_F (v := (.ref a4)) (own_F (v := (.ref a4)) P11 K2 own_nin0) K6 (own_nl D48 own_nin0)) K12 (own_nl D48 own_nin0)) K17 (own_nl D48 own_nin0)) K22 (own_nl D48 own_nin0)) K25 (own_nl P12 own_nin0)) K28 (own_nl P12 own_nin0)) K35 (own_nl P12 own_nin0)) K38 (own_nl P12 own_nin0)) K41 (own_nl P12 own_nin0)) K44 (own_nl P12 own_nin0))
  have F50 := (own_F (v := .null) (own_F (v := .null) (own_F (v := .null) (own_F (v := .null) (own_F (v := .null) (own_F (v := .null) (own_F (v := .null) (own_F (v := .null) (own_F (v := .null) (own_F (v := .null) (own_F (v := .null) P13 K2 own_nin0) K6 (own_nl D48 own_nin0)) K12 (own_nl D48 own_nin0)) K17 (own_nl D48 own_nin0)) K22 (own_nl D48 own_nin0)) K25 (own_nl P12 own_nin0)) K28 (own_nl P12 own_nin0)) K35 (own_nl P12 own_nin0)) K38 (own_nl P12 own_nin0)) K41 (own_nl P12 own_nin0)) K44 (own_nl P12 own_nin0))
  have F51 := (own_F (v := .null) (own_F (v := .null) (own_F (v := .null) (own_F (v := .null) (own_F (v := .null) (own_F (v := .null) (own_F (v := .null) (own_F (v := .null) (own_F (v := .null) (own_F (v := .null) (own_F (v := .null) P15 K2 own_nin0) K6 (own_nl D48 own_nin0)) K12 (own_nl D48 own_nin0)) K17 (own_nl D48 own_nin0)) K22 (own_nl D48 own_nin0)) K25 (own_nl P12 own_nin0)) K28 (own_nl P12 own_nin0)) K35 (own_nl P12 own_nin0)) K38 (own_nl P12 own_nin0)) K41 (own_nl P12 own_nin0)) K44 (own_nl P12 own_nin0))
  have F52 := (own_F (v := .null) (own_F (v := .null) (own_F (v := .null) (own_F (v := .null) (own_F (v := .null) (own_F (v := .null) (own_F (v := .null) (own_F (v := .null) (own_F (v := .null) (own_F (v := .null) (own_F (v := .null) P16 K2 own_nin0) K6 (own_nl D48 own_nin0)) K12 (own_nl D48 own_nin0)) K17 (own_nl D48 own_nin0)) K22 (own_nl D48 own_nin0)) K25 (own_nl P12 own_nin0)) K28 (own_nl P12 own_nin0)) K35 (own_nl P12 own_nin0)) K38 (own_nl P12 own_nin0)) K41 (own_nl P12 own_nin0)) K44 (own_nl P12 own_nin0))
  have F53 := (own_F (v := (.ref a5)) (own_F (v := (.ref a5)) (own_F (v := (.ref a5)) (own_F (v := (.ref a5)) (own_F (v := (.ref a5)) (own_F (v := (.ref a5)) (own_F (v := (.ref a5)) (own_F (v := (.ref a5)) (own_F (v := (.ref a5)) (own_F (v := (.ref a5)) (own_F (v := (.ref a5)) P17 K2 own_nin0) K6 (own_nl D48 own_nin0)) K12 (own_nl D48 own_nin0)) K17 (own_nl D48 own_nin0)) K22 (own_nl D48 own_nin0)) K25 (own_nl P12 own_nin0)) K28 (own_nl P12 own_nin0)) K35 (own_nl P12 own_nin0)) K38 (own_nl P12 own_nin0)) K41 (own_nl P12 own_nin0)) K44 (own_nl P12 own_nin0))
  have F54 := (own_F (v := (.ref a6)) (own_F (v := (.ref a6)) (own_F (v := (.ref a6)) (own_F (v := (.ref a6)) (own_F (v := (.ref a6)) (own_F (v := (.ref a6)) (own_F (v := (.ref a6)) (own_F (v := (.ref a6)) (own_F (v := (.ref a6)) (own_F (v := (.ref a6)) (own_F (v := (.ref a6)) P18 K2 own_nin0) K6 (own_nl D48 own_nin0)) K12 (own_nl D48 own_nin0)) K17 (own_nl D48 own_nin0)) K22 (own_nl D48 own_nin0)) K25 (own_nl P12 own_nin0)) K28 (own_nl P12 own_nin0)) K35 (own_nl P12 own_nin0)) K38 (own_nl P12 own_nin0)) K41 (own_nl P12 own_nin0)) K44 (own_nl P12 own_nin0))
  have F55 := (own_F (v := .null) (own_F (v := .null) (own_F (v := .null) (own_F (v := .null) (own_F (v := .null) (own_F (v := .null) (own_F (v := .null) (own_F (v := .null) (own_F (v := .null) (own_F (v := .null) (own_F (v := .null) P19 K2 own_nin0) K6 (own_nl D48 own_nin0)) K12 (own_nl D48 own_nin0)) K17 (own_nl D48 own_nin0)) K22 (own_nl D48 own_nin0)) K25 (own_nl P12 own_nin0)) K28 (own_nl P12 own_nin0)) K35 (own_nl P12 own_nin0)) K38 (own_nl P12 own_nin0)) K41 (own_nl P12 own_nin0)) K44 (own_nl P12 own_nin0))
  refine own_virtual Y44 hx (pc' := 109) (W := 0) (cl' := 1) (sl' := 11) (as' := [(.int (1 : Int32)), .null, .null, (.int (2 : Int32)), (.ref b2)]) (S' := []) (a := a2) hZ hown (own_w hw 97 rfl) (own_w hw 98 rfl) (notFace_of_selects (args := #[]) (mvT hZ (own_w hw 100 rfl))) (own_w hw 100 rfl) (own_w hw 99 rfl) (own_w hw 3 rfl) (own_w hw 101 rfl) (by decide) F46 (rm12_44 l Z a0 hw [] a2 b2 a4 a5 a6 h44 n0 (own_sz Y44) F46 F47 F49 F50 P14 F51 F52 F53 F54 F55) (hb hby d7_106) rfl (by rw [hml]; rfl) rfl (lenOf pd__ILjava_lang_Object_Ljava_lang_Object_ILcom_example_napkintree_napkintree_balancing_MultiwayTree_Node__V rfl) rfl (by decide) (by decide) rfl rfl (by decide) (by decide) P12_44_sz (own_fixR (S2 := []) rfl (fun T45 h45 Y45 R45 => ?_))
  obtain ⟨K45, G45_0, G45_1, G45_2, G45_3, G45_4, G45_5⟩ := R45
  refine own_aloadN Y45 hx (pc' := 110) (hb hby d7_109) rfl rfl rfl ?_
  refine own_aloadN Y45 hx (pc' := 111) (hb hby d7_110) rfl rfl rfl ?_
  have F56 := (own_St (own_St (own_St (own_St (own_St (own_St (own_St (own_St (own_St (own_St (own_St (own_St P20 K2 own_all0) K6 (own_allS (own_plain E2) own_all0)) K12 (own_allS (own_plain F11) own_all0)) K17 (own_allS (own_plain F16) own_all0)) K22 (own_allS (own_plain F21) own_all0)) K25 (own_allS (own_plain F24) own_all0)) K28 (own_allS (own_plain F27) own_all0)) K35 (own_allS (own_plain F30) own_all0)) K38 (own_allS (own_plain F37) own_all0)) K41 (own_allS (own_plain F40) own_all0)) K44 (own_allS (own_plain F43) own_all0)) K45 (own_allS (own_plain F46) (own_allS (own_plain F46) (own_allS (own_plain F46) (own_allS (own_plain F46) (own_allS (own_plain F46) (own_allS (own_plain F46) own_all0)))))))
  refine own_getS Y45 hx (pc' := 114) (v := (.ref a7)) hZ hown (host := "") (Or.inl (own_w hw 126 rfl)) Via.refl F56 (hb hby d7_111) rfl (fun T57 Y57 => ?_)
  have F59 := (own_E (own_E (own_E (own_E (own_E (own_E (own_E (own_E (own_E (own_E (own_E (own_E P21 K2) K6) K12) K17) K22) K25) K28) K35) K38) K41) K44) K45)
  have D60 : a1 ≠ b2 := (Nat.ne_of_lt (Nat.lt_of_lt_of_le P21.lt le2))
  have F61 := (own_E (own_E (own_E (own_E (own_E P21 K2) K6) K12) K17) K22)
  have D62 : a1 ≠ a3 := (ne_exa F61 F24 (by decide))
  have F63 := (own_E (own_E (own_E (own_E (own_E (own_E F61 K25) K28) K35) K38) K41) K44)
  have D64 : a1 ≠ a2 := (ne_exa F63 F46 (by decide))
  have F65 := (own_F (v := (.int (0 : Int32))) (own_F (v := (.int (0 : Int32))) (own_F (v := (.int (0 : Int32))) (own_F (v := (.int (0 : Int32))) (own_F (v := (.int (0 : Int32))) (own_F (v := (.int (0 : Int32))) (own_F (v := (.int (0 : Int32))) (own_F (v := (.int (0 : Int32))) (own_F (v := (.int (0 : Int32))) (own_F (v := (.int (0 : Int32))) (own_F (v := (.int (0 : Int32))) (own_F (v := (.int (0 : Int32))) P22 K2 own_nin0) K6 (own_nl D60 own_nin0)) K12 (own_nl D60 own_nin0)) K17 (own_nl D60 own_nin0)) K22 (own_nl D60 own_nin0)) K25 (own_nl D62 own_nin0)) K28 (own_nl D62 own_nin0)) K35 (own_nl D62 own_nin0)) K38 (own_nl D62 own_nin0)) K41 (own_nl D62 own_nin0)) K44 (own_nl D62 own_nin0)) K45 (own_nl D64 (own_nl D64 (own_nl D64 (own_nl D64 (own_nl D64 (own_nl D64 own_nin0)))))))
  have F66 := (own_St (own_St (own_St (own_St (own_St (own_St (own_St (own_St (own_St (own_St (own_St (own_St P23 K2 own_all0) K6 (own_allS (own_plain E2) own_all0)) K12 (own_allS (own_plain F11) own_all0)) K17 (own_allS (own_plain F16) own_all0)) K22 (own_allS (own_plain F21) own_all0)) K25 (own_allS (own_plain F24) own_all0)) K28 (own_allS (own_plain F27) own_all0)) K35 (own_allS (own_plain F30) own_all0)) K38 (own_allS (own_plain F37) own_all0)) K41 (own_allS (own_plain F40) own_all0)) K44 (own_allS (own_plain F43) own_all0)) K45 (own_allS (own_plain F46) (own_allS (own_plain F46) (own_allS (own_plain F46) (own_allS (own_plain F46) (own_allS (own_plain F46) (own_allS (own_plain F46) own_all0)))))))
  have F67 := (own_E (own_E (own_E (own_E (own_E (own_E (own_E (own_E (own_E (own_E (own_E (own_E P24 K2) K6) K12) K17) K22) K25) K28) K35) K38) K41) K44) K45)
  have D68 : a7 ≠ b2 := (Nat.ne_of_lt (Nat.lt_of_lt_of_le P24.lt le2))
  have F69 := (own_E (own_E (own_E (own_E (own_E P24 K2) K6) K12) K17) K22)
  have D70 : a7 ≠ a3 := (ne_exa F69 F24 (by decide))
  have F71 := (own_E (own_E (own_E (own_E (own_E (own_E F69 K25) K28) K35) K38) K41) K44)
  have D72 : a7 ≠ a2 := (ne_exa F71 F46 (by decide))
  have F73 := (own_F (v := (.int (1 : Int32))) (own_F (v := (.int (1 : Int32))) (own_F (v := (.int (1 : Int32))) (own_F (v := (.int (1 : Int32))) (own_F (v := (.int (1 : Int32))) (own_F (v := (.int (1 : Int32))) (own_F (v := (.int (1 : Int32))) (own_F (v := (.int (1 : Int32))) (own_F (v := (.int (1 : Int32))) (own_F (v := (.int (1 : Int32))) (own_F (v := (.int (1 : Int32))) (own_F (v := (.int (1 : Int32))) P25 K2 own_nin0) K6 (own_nl D68 own_nin0)) K12 (own_nl D68 own_nin0)) K17 (own_nl D68 own_nin0)) K22 (own_nl D68 own_nin0)) K25 (own_nl D70 own_nin0)) K28 (own_nl D70 own_nin0)) K35 (own_nl D70 own_nin0)) K38 (own_nl D70 own_nin0)) K41 (own_nl D70 own_nin0)) K44 (own_nl D70 own_nin0)) K45 (own_nl D72 (own_nl D72 (own_nl D72 (own_nl D72 (own_nl D72 (own_nl D72 own_nin0)))))))
  have F74 := (own_F (v := (.int (2 : Int32))) (own_F (v := (.int (2 : Int32))) (own_F (v := (.int (2 : Int32))) (own_F (v := (.int (2 : Int32))) (own_F (v := (.int (2 : Int32))) (own_F (v := (.int (2 : Int32))) (own_F (v := (.int (2 : Int32))) (own_F (v := (.int (2 : Int32))) (own_F (v := (.int (2 : Int32))) (own_F (v := (.int (2 : Int32))) (own_F (v := (.int (2 : Int32))) (own_F (v := (.int (2 : Int32))) P26 K2 own_nin0) K6 (own_nl D7 own_nin0)) K12 (own_nl D7 own_nin0)) K17 (own_nl D7 own_nin0)) K22 (own_nl D7 own_nin0)) K25 (own_nr (sl_94 hw) own_nin0)) K28 (own_nr (sl_95 hw) own_nin0)) K35 (own_nr (sl_96 hw) own_nin0)) K38 (own_nr (sl_97 hw) own_nin0)) K41 (own_nr (sl_98 hw) own_nin0)) K44 (own_nr (sl_99 hw) own_nin0)) K45 (own_nl (Ne.symm P12) (own_nl (Ne.symm P12) (own_nl (Ne.symm P12) (own_nl (Ne.symm P12) (own_nl (Ne.symm P12) (own_nl (Ne.symm P12) own_nin0)))))))
  have F75 := (own_E (own_E F43 K44) K45)
  refine own_private Y57 hx (pc' := 117) (W := 0) (cl' := 1) (sl' := 11) (as' := [(.ref a3), (.ref a7)]) (S' := []) (a := a1) hZ hown (own_w hw 129 rfl) (own_w hw 130 rfl) (own_selP hZ (Cond.sameMethod_class (own_w hw 134 rfl)) (own_w hw 131 rfl) (own_w hw 130 rfl) (by decide)) (own_w hw 131 rfl) (own_w hw 19 rfl) (own_w hw 132 rfl) (by decide) F59 (rm17_26 l Z a0 hw [] a1 a3 a7 h45 n0 (own_sz Y57) F59 F65 F66 F67 F73 F74 F75 P7) (hb hby d7_114) rfl (by rw [hml]; rfl) rfl (lenOf pd__Lcom_example_napkintree_napkintree_balancing_MultiwayTree_Node_Lcom_example_napkintree_napkintree_balancing_NodeMark__V rfl) rfl (by decide) (by decide) rfl rfl (by decide) (by decide) P17_26_sz (own_fixR (S2 := []) rfl (fun T58 h58 Y58 R58 => ?_))
  obtain ⟨K58, G58_0⟩ := R58
  refine own_aloadN Y58 hx (pc' := 118) (hb hby d7_117) rfl rfl rfl ?_
  refine own_aload Y58 hx (pc' := 120) (hb hby d7_118) rfl rfl rfl ?_
  have F76 := (own_St F56 K58 (own_allS (own_plain F75) own_all0))
  refine own_getS Y58 hx (pc' := 123) (v := (.ref a7)) hZ hown (host := "") (Or.inl (own_w hw 126 rfl)) Via.refl F76 (hb hby d7_120) rfl (fun T77 Y77 => ?_)
  have F79 := (own_E F59 K58)
  have F80 := (own_F (v := (.int (0 : Int32))) F65 K58 (own_nl D62 own_nin0))
  have F81 := (own_St F66 K58 (own_allS (own_plain F75) own_all0))
  have F82 := (own_E F67 K58)
  have F83 := (own_F (v := (.int (1 : Int32))) F73 K58 (own_nl D70 own_nin0))
  have F84 := (own_F (v := (.int (0 : Int32))) (own_F (v := (.int (0 : Int32))) (own_F (v := (.int (0 : Int32))) (own_F (v := (.int (0 : Int32))) (own_F (v := (.int (0 : Int32))) (own_F (v := (.int (0 : Int32))) (own_F (v := (.int (0 : Int32))) (own_F (v := (.int (0 : Int32))) (own_F (v := (.int (0 : Int32))) (own_F (v := (.int (0 : Int32))) (own_F (v := (.int (0 : Int32))) (own_F (v := (.int (0 : Int32))) (D2 (Or.inl (own_w hw 153 rfl)) (ty := .int) (by decide)) K6 (own_nr (sl_100 hw) own_nin0)) K12 (own_nr (sl_101 hw) own_nin0)) K17 (own_nr (sl_102 hw) own_nin0)) K22 (own_nr (sl_103 hw) own_nin0)) K25 (own_nl (Ne.symm D7) own_nin0)) K28 (own_nl (Ne.symm D7) own_nin0)) K35 (own_nl (Ne.symm D7) own_nin0)) K38 (own_nl (Ne.symm D7) own_nin0)) K41 (own_nl (Ne.symm D7) own_nin0)) K44 (own_nl (Ne.symm D7) own_nin0)) K45 (own_nl (Ne.symm D48) (own_nl (Ne.symm D48) (own_nl (Ne.symm D48) (own_nl (Ne.symm D48) (own_nl (Ne.symm D48) (own_nl (Ne.symm D48) own_nin0))))))) K58 (own_nl (Ne.symm D7) own_nin0))
  have F85 := (own_E (own_E (own_E (own_E (own_E (own_E (own_E (own_E (own_E F21 K22) K25) K28) K35) K38) K41) K44) K45) K58)
  refine own_private Y77 hx (pc' := 126) (W := 0) (cl' := 1) (sl' := 11) (as' := [(.ref b2), (.ref a7)]) (S' := []) (a := a1) hZ hown (own_w hw 129 rfl) (own_w hw 130 rfl) (own_selP hZ (Cond.sameMethod_class (own_w hw 134 rfl)) (own_w hw 131 rfl) (own_w hw 130 rfl) (by decide)) (own_w hw 131 rfl) (own_w hw 19 rfl) (own_w hw 132 rfl) (by decide) F79 (rm17_16 l Z a0 hw [] a1 b2 a7 h58 n0 (own_sz Y77) F79 F80 F81 F82 F83 F84 F85 (Nat.le_trans Z0 le2)) (hb hby d7_123) rfl (by rw [hml]; rfl) rfl (lenOf pd__Lcom_example_napkintree_napkintree_balancing_MultiwayTree_Node_Lcom_example_napkintree_napkintree_balancing_NodeMark__V rfl) rfl (by decide) (by decide) rfl rfl (by decide) (by decide) P17_16_sz (own_fixR (S2 := []) rfl (fun T78 h78 Y78 R78 => ?_))
  obtain ⟨K78, G78_0⟩ := R78
  refine own_aloadN Y78 hx (pc' := 127) (hb hby d7_126) rfl rfl rfl ?_
  refine own_aloadN Y78 hx (pc' := 128) (hb hby d7_127) rfl rfl rfl ?_
  have F86 := (own_St (own_St (own_St (own_St (own_St (own_St (own_St (own_St (own_St (own_St (own_St (own_St (own_St (own_St P27 K2 own_all0) K6 (own_allS (own_plain E2) own_all0)) K12 (own_allS (own_plain F11) own_all0)) K17 (own_allS (own_plain F16) own_all0)) K22 (own_allS (own_plain F21) own_all0)) K25 (own_allS (own_plain F24) own_all0)) K28 (own_allS (own_plain F27) own_all0)) K35 (own_allS (own_plain F30) own_all0)) K38 (own_allS (own_plain F37) own_all0)) K41 (own_allS (own_plain F40) own_all0)) K44 (own_allS (own_plain F43) own_all0)) K45 (own_allS (own_plain F46) (own_allS (own_plain F46) (own_allS (own_plain F46) (own_allS (own_plain F46) (own_allS (own_plain F46) (own_allS (own_plain F46) own_all0))))))) K58 (own_allS (own_plain F75) own_all0)) K78 (own_allS (own_plain F85) own_all0))
  refine own_getS Y78 hx (pc' := 131) (v := (.ref a8)) hZ hown (host := "") (Or.inl (own_w hw 154 rfl)) Via.refl F86 (hb hby d7_128) rfl (fun T87 Y87 => ?_)
  have F89 := (own_E F79 K78)
  have F90 := (own_F (v := (.int (0 : Int32))) F80 K78 (own_nl D60 own_nin0))
  have F91 := (own_St F81 K78 (own_allS (own_plain F85) own_all0))
  have F92 := (own_E (own_E (own_E (own_E (own_E (own_E (own_E (own_E (own_E (own_E (own_E (own_E (own_E (own_E P28 K2) K6) K12) K17) K22) K25) K28) K35) K38) K41) K44) K45) K58) K78)
  have D93 : a8 ≠ b2 := (Nat.ne_of_lt (Nat.lt_of_lt_of_le P28.lt le2))
  have F94 := (own_E (own_E (own_E (own_E (own_E P28 K2) K6) K12) K17) K22)
  have D95 : a8 ≠ a3 := (ne_exa F94 F24 (by decide))
  have F96 := (own_E (own_E (own_E (own_E (own_E (own_E F94 K25) K28) K35) K38) K41) K44)
  have D97 : a8 ≠ a2 := (ne_exa F96 F46 (by decide))
  have F98 := (own_F (v := (.int (0 : Int32))) (own_F (v := (.int (0 : Int32))) (own_F (v := (.int (0 : Int32))) (own_F (v := (.int (0 : Int32))) (own_F (v := (.int (0 : Int32))) (own_F (v := (.int (0 : Int32))) (own_F (v := (.int (0 : Int32))) (own_F (v := (.int (0 : Int32))) (own_F (v := (.int (0 : Int32))) (own_F (v := (.int (0 : Int32))) (own_F (v := (.int (0 : Int32))) (own_F (v := (.int (0 : Int32))) (own_F (v := (.int (0 : Int32))) (own_F (v := (.int (0 : Int32))) P29 K2 own_nin0) K6 (own_nl D93 own_nin0)) K12 (own_nl D93 own_nin0)) K17 (own_nl D93 own_nin0)) K22 (own_nl D93 own_nin0)) K25 (own_nl D95 own_nin0)) K28 (own_nl D95 own_nin0)) K35 (own_nl D95 own_nin0)) K38 (own_nl D95 own_nin0)) K41 (own_nl D95 own_nin0)) K44 (own_nl D95 own_nin0)) K45 (own_nl D97 (own_nl D97 (own_nl D97 (own_nl D97 (own_nl D97 (own_nl D97 own_nin0))))))) K58 (own_nl D95 own_nin0)) K78 (own_nl D93 own_nin0))
  have F99 := (own_F (v := (.int (1 : Int32))) (own_F (v := (.int (1 : Int32))) (own_F (v := (.int (1 : Int32))) (own_F (v := (.int (1 : Int32))) (own_F (v := (.int (1 : Int32))) (own_F (v := (.int (1 : Int32))) (own_F (v := (.int (1 : Int32))) (own_F (v := (.int (1 : Int32))) (own_F (v := (.int (1 : Int32))) (own_F (v := (.int (1 : Int32))) (own_F (v := (.int (1 : Int32))) (own_F (v := (.int (1 : Int32))) (own_F (v := (.int (1 : Int32))) (own_F (v := (.int (1 : Int32))) P30 K2 own_nin0) K6 (own_nl D48 own_nin0)) K12 (own_nl D48 own_nin0)) K17 (own_nl D48 own_nin0)) K22 (own_nl D48 own_nin0)) K25 (own_nl P12 own_nin0)) K28 (own_nl P12 own_nin0)) K35 (own_nl P12 own_nin0)) K38 (own_nl P12 own_nin0)) K41 (own_nl P12 own_nin0)) K44 (own_nl P12 own_nin0)) K45 (own_nr (sl_97 hw) (own_nr (sl_99 hw) (own_nr (sl_96 hw) (own_nr (sl_98 hw) (own_nr (sl_95 hw) (own_nr (sl_94 hw) own_nin0))))))) K58 (own_nl P12 own_nin0)) K78 (own_nl D48 own_nin0))
  have F100 := (own_E (own_E (own_E F46 K45) K58) K78)
  refine own_private Y87 hx (pc' := 134) (W := 0) (cl' := 1) (sl' := 11) (as' := [(.ref a2), (.ref a8)]) (S' := []) (a := a1) hZ hown (own_w hw 129 rfl) (own_w hw 130 rfl) (own_selP hZ (Cond.sameMethod_class (own_w hw 134 rfl)) (own_w hw 131 rfl) (own_w hw 130 rfl) (by decide)) (own_w hw 131 rfl) (own_w hw 19 rfl) (own_w hw 132 rfl) (by decide) F89 (rm17_32 l Z a0 hw [] a1 a2 a8 h78 n0 (own_sz Y87) F89 F90 F91 F92 F98 F99 F100 P14) (hb hby d7_131) rfl (by rw [hml]; rfl) rfl (lenOf pd__Lcom_example_napkintree_napkintree_balancing_MultiwayTree_Node_Lcom_example_napkintree_napkintree_balancing_NodeMark__V rfl) rfl (by decide) (by decide) rfl rfl (by decide) (by decide) P17_32_sz (own_fixR (S2 := []) rfl (fun T88 h88 Y88 R88 => ?_))
  obtain ⟨K88, G88_0⟩ := R88
  have KC101 : own_Kp h0 h88 [(a3, Jvm.RoadKit.slotOf Z zs0 "child2" zs16), (a3, Jvm.RoadKit.slotOf Z zs0 "child3" zs16), (a3, Jvm.RoadKit.slotOf Z zs0 "key1" zs1), (a3, Jvm.RoadKit.slotOf Z zs0 "key2" zs1), (a3, Jvm.RoadKit.slotOf Z zs0 "value1" zs1), (a3, Jvm.RoadKit.slotOf Z zs0 "value2" zs1), (a2, Jvm.RoadKit.slotOf Z zs0 "key2" zs1), (a2, Jvm.RoadKit.slotOf Z zs0 "value2" zs1), (a2, Jvm.RoadKit.slotOf Z zs0 "key1" zs1), (a2, Jvm.RoadKit.slotOf Z zs0 "value1" zs1), (a2, Jvm.RoadKit.slotOf Z zs0 "child3" zs16), (a2, Jvm.RoadKit.slotOf Z zs0 "child2" zs16), (a3, Jvm.RoadKit.slotOf Z zs0 "mark" "I"), (a2, Jvm.RoadKit.slotOf Z zs0 "mark" "I")] := ((((((((((((((((own_Kp.refl h0 [(a3, Jvm.RoadKit.slotOf Z zs0 "child2" zs16), (a3, Jvm.RoadKit.slotOf Z zs0 "child3" zs16), (a3, Jvm.RoadKit.slotOf Z zs0 "key1" zs1), (a3, Jvm.RoadKit.slotOf Z zs0 "key2" zs1), (a3, Jvm.RoadKit.slotOf Z zs0 "value1" zs1), (a3, Jvm.RoadKit.slotOf Z zs0 "value2" zs1), (a2, Jvm.RoadKit.slotOf Z zs0 "key2" zs1), (a2, Jvm.RoadKit.slotOf Z zs0 "value2" zs1), (a2, Jvm.RoadKit.slotOf Z zs0 "key1" zs1), (a2, Jvm.RoadKit.slotOf Z zs0 "value1" zs1), (a2, Jvm.RoadKit.slotOf Z zs0 "child3" zs16), (a2, Jvm.RoadKit.slotOf Z zs0 "child2" zs16), (a3, Jvm.RoadKit.slotOf Z zs0 "mark" "I"), (a2, Jvm.RoadKit.slotOf Z zs0 "mark" "I")]).trans K2 own_all0).trans K6 (own_allS (Or.inr le2) own_all0)).trans K12 (own_allS (Or.inr le2) own_all0)).trans K17 (own_allS (Or.inr le2) own_all0)).trans K22 (own_allS (Or.inr le2) own_all0)).trans K25 (own_allS (Or.inl (List.mem_of_getElem? (i := 0) rfl)) own_all0)).trans K28 (own_allS (Or.inl (List.mem_of_getElem? (i := 1) rfl)) own_all0)).trans K35 (own_allS (Or.inl (List.mem_of_getElem? (i := 2) rfl)) own_all0)).trans K38 (own_allS (Or.inl (List.mem_of_getElem? (i := 3) rfl)) own_all0)).trans K41 (own_allS (Or.inl (List.mem_of_getElem? (i := 4) rfl)) own_all0)).trans K44 (own_allS (Or.inl (List.mem_of_getElem? (i := 5) rfl)) own_all0)).trans K45 (own_allS (Or.inl (List.mem_of_getElem? (i := 6) rfl)) (own_allS (Or.inl (List.mem_of_getElem? (i := 7) rfl)) (own_allS (Or.inl (List.mem_of_getElem? (i := 8) rfl)) (own_allS (Or.inl (List.mem_of_getElem? (i := 9) rfl)) (own_allS (Or.inl (List.mem_of_getElem? (i := 10) rfl)) (own_allS (Or.inl (List.mem_of_getElem? (i := 11) rfl)) own_all0))))))).trans K58 (own_allS (Or.inl (List.mem_of_getElem? (i := 12) rfl)) own_all0)).trans K78 (own_allS (Or.inr le2) own_all0)).trans K88 (own_allS (Or.inl (List.mem_of_getElem? (i := 13) rfl)) own_all0))
  have F102 := (own_F (v := .null) (own_F (v := .null) (own_F (v := .null) (own_F (v := .null) (own_F (v := .null) (own_F (v := .null) (own_F (v := .null) (own_F (v := .null) (own_F (v := .null) F25 K28 (own_nr (sl_77 hw) own_nin0)) K35 (own_nr (sl_61 hw) own_nin0)) K38 (own_nr (sl_59 hw) own_nin0)) K41 (own_nr (sl_62 hw) own_nin0)) K44 (own_nr (sl_60 hw) own_nin0)) K45 (own_nl (Ne.symm P12) (own_nl (Ne.symm P12) (own_nl (Ne.symm P12) (own_nl (Ne.symm P12) (own_nl (Ne.symm P12) (own_nl (Ne.symm P12) own_nin0))))))) K58 (own_nr (sl_104 hw) own_nin0)) K78 (own_nl D7 own_nin0)) K88 (own_nl (Ne.symm P12) own_nin0))
  have F103 := (own_F (v := .null) (own_F (v := .null) (own_F (v := .null) (own_F (v := .null) (own_F (v := .null) (own_F (v := .null) (own_F (v := .null) (own_F (v := .null) F28 K35 (own_nr (sl_68 hw) own_nin0)) K38 (own_nr (sl_66 hw) own_nin0)) K41 (own_nr (sl_69 hw) own_nin0)) K44 (own_nr (sl_67 hw) own_nin0)) K45 (own_nl (Ne.symm P12) (own_nl (Ne.symm P12) (own_nl (Ne.symm P12) (own_nl (Ne.symm P12) (own_nl (Ne.symm P12) (own_nl (Ne.symm P12) own_nin0))))))) K58 (own_nr (sl_105 hw) own_nin0)) K78 (own_nl D7 own_nin0)) K88 (own_nl (Ne.symm P12) own_nin0))
  have F104 := (own_F (v := .null) (own_F (v := .null) (own_F (v := .null) (own_F (v := .null) (own_F (v := .null) (own_F (v := .null) (own_F (v := .null) F35 K38 (own_nr (sl_32 hw) own_nin0)) K41 (own_nr (sl_48 hw) own_nin0)) K44 (own_nr (sl_33 hw) own_nin0)) K45 (own_nl (Ne.symm P12) (own_nl (Ne.symm P12) (own_nl (Ne.symm P12) (own_nl (Ne.symm P12) (own_nl (Ne.symm P12) (own_nl (Ne.symm P12) own_nin0))))))) K58 (own_nr (sl_106 hw) own_nin0)) K78 (own_nl D7 own_nin0)) K88 (own_nl (Ne.symm P12) own_nin0))
  have F105 := (own_F (v := .null) (own_F (v := .null) (own_F (v := .null) (own_F (v := .null) (own_F (v := .null) (own_F (v := .null) F38 K41 (own_nr (sl_43 hw) own_nin0)) K44 (own_nr (sl_42 hw) own_nin0)) K45 (own_nl (Ne.symm P12) (own_nl (Ne.symm P12) (own_nl (Ne.symm P12) (own_nl (Ne.symm P12) (own_nl (Ne.symm P12) (own_nl (Ne.symm P12) own_nin0))))))) K58 (own_nr (sl_107 hw) own_nin0)) K78 (own_nl D7 own_nin0)) K88 (own_nl (Ne.symm P12) own_nin0))
  have F106 := (own_F (v := .null) (own_F (v := .null) (own_F (v := .null) (own_F (v := .null) (own_F (v := .null) F41 K44 (own_nr (sl_38 hw) own_nin0)) K45 (own_nl (Ne.symm P12) (own_nl (Ne.symm P12) (own_nl (Ne.symm P12) (own_nl (Ne.symm P12) (own_nl (Ne.symm P12) (own_nl (Ne.symm P12) own_nin0))))))) K58 (own_nr (sl_108 hw) own_nin0)) K78 (own_nl D7 own_nin0)) K88 (own_nl (Ne.symm P12) own_nin0))
  have F107 := (own_F (v := .null) (own_F (v := .null) (own_F (v := .null) (own_F (v := .null) F44 K45 (own_nl (Ne.symm P12) (own_nl (Ne.symm P12) (own_nl (Ne.symm P12) (own_nl (Ne.symm P12) (own_nl (Ne.symm P12) (own_nl (Ne.symm P12) own_nin0))))))) K58 (own_nr (sl_109 hw) own_nin0)) K78 (own_nl D7 own_nin0)) K88 (own_nl (Ne.symm P12) own_nin0))
  have F108 := (own_F (v := (.ref a4)) (own_F (v := (.ref a4)) (own_F (v := (.ref a4)) G45_0 K58 (own_nl P12 own_nin0)) K78 (own_nl D48 own_nin0)) K88 (own_nr (sl_107 hw) own_nin0))
  have F109 := (own_F (v := .null) (own_F (v := .null) (own_F (v := .null) G45_1 K58 (own_nl P12 own_nin0)) K78 (own_nl D48 own_nin0)) K88 (own_nr (sl_109 hw) own_nin0))
  have F110 := (own_F (v := (.ref a4)) (own_F (v := (.ref a4)) (own_F (v := (.ref a4)) G45_2 K58 (own_nl P12 own_nin0)) K78 (own_nl D48 own_nin0)) K88 (own_nr (sl_106 hw) own_nin0))
  have F111 := (own_F (v := .null) (own_F (v := .null) (own_F (v := .null) G45_3 K58 (own_nl P12 own_nin0)) K78 (own_nl D48 own_nin0)) K88 (own_nr (sl_108 hw) own_nin0))
  have F112 := (own_F (v := (.ref a6)) (own_F (v := (.ref a6)) (own_F (v := (.ref a6)) G45_4 K58 (own_nl P12 own_nin0)) K78 (own_nl D48 own_nin0)) K88 (own_nr (sl_105 hw) own_nin0))
  have F113 := (own_F (v := (.ref b2)) (own_F (v := (.ref b2)) (own_F (v := (.ref b2)) G45_5 K58 (own_nl P12 own_nin0)) K78 (own_nl D48 own_nin0)) K88 (own_nr (sl_104 hw) own_nin0))
  have F114 := (own_F (v := (.int (2 : Int32))) (own_F (v := (.int (2 : Int32))) G58_0 K78 (own_nl D7 own_nin0)) K88 (own_nl (Ne.symm P12) own_nin0))
  have F115 := (own_E (own_E F85 K78) K88)
  have F116 := (own_F (v := .null) (own_F (v := .null) (own_F (v := .null) (own_F (v := .null) (own_F (v := .null) (own_F (v := .null) (own_F (v := .null) (own_F (v := .null) (own_F (v := .null) (own_F (v := .null) (own_F (v := .null) F17 K22 (own_nr (sl_113 hw) own_nin0)) K25 (own_nl (Ne.symm D7) own_nin0)) K28 (own_nl (Ne.symm D7) own_nin0)) K35 (own_nl (Ne.symm D7) own_nin0)) K38 (own_nl (Ne.symm D7) own_nin0)) K41 (own_nl (Ne.symm D7) own_nin0)) K44 (own_nl (Ne.symm D7) own_nin0)) K45 (own_nl (Ne.symm D48) (own_nl (Ne.symm D48) (own_nl (Ne.symm D48) (own_nl (Ne.symm D48) (own_nl (Ne.symm D48) (own_nl (Ne.symm D48) own_nin0))))))) K58 (own_nl (Ne.symm D7) own_nin0)) K78 (own_nr (sl_114 hw) own_nin0)) K88 (own_nl (Ne.symm D48) own_nin0))
  have F117 := (own_F (v := .null) (own_F (v := .null) (own_F (v := .null) (own_F (v := .null) (own_F (v := .null) (own_F (v := .null) (own_F (v := .null) (own_F (v := .null) (own_F (v := .null) (own_F (v := .null) (own_F (v := .null) (own_F (v := .null) (own_F (v := .null) (own_F (v := .null) (D2 (Or.inl (own_w hw 63 rfl)) (ty := (.object zs2)) (by decide)) K6 (own_nr (sl_44 hw) own_nin0)) K12 (own_nr (sl_45 hw) own_nin0)) K17 (own_nr (sl_26 hw) own_nin0)) K22 (own_nr (sl_81 hw) own_nin0)) K25 (own_nl (Ne.symm D7) own_nin0)) K28 (own_nl (Ne.symm D7) own_nin0)) K35 (own_nl (Ne.symm D7) own_nin0)) K38 (own_nl (Ne.symm D7) own_nin0)) K41 (own_nl (Ne.symm D7) own_nin0)) K44 (own_nl (Ne.symm D7) own_nin0)) K45 (own_nl (Ne.symm D48) (own_nl (Ne.symm D48) (own_nl (Ne.symm D48) (own_nl (Ne.symm D48) (own_nl (Ne.symm D48) (own_nl (Ne.symm D48) own_nin0))))))) K58 (own_nl (Ne.symm D7) own_nin0)) K78 (own_nr (sl_107 hw) own_nin0)) K88 (own_nl (Ne.symm D48) own_nin0))
  have F118 := (own_F (v := .null) (own_F (v := .null) (own_F (v := .null) (own_F (v := .null) (own_F (v := .null) (own_F (v := .null) (own_F (v := .null) (own_F (v := .null) (own_F (v := .null) (own_F (v := .null) (own_F (v := .null) (own_F (v := .null) (own_F (v := .null) F6 K12 (own_nr (sl_53 hw) own_nin0)) K17 (own_nr (sl_29 hw) own_nin0)) K22 (own_nr (sl_87 hw) own_nin0)) K25 (own_nl (Ne.symm D7) own_nin0)) K28 (own_nl (Ne.symm D7) own_nin0)) K35 (own_nl (Ne.symm D7) own_nin0)) K38 (own_nl (Ne.symm D7) own_nin0)) K41 (own_nl (Ne.symm D7) own_nin0)) K44 (own_nl (Ne.symm D7) own_nin0)) K45 (own_nl (Ne.symm D48) (own_nl (Ne.symm D48) (own_nl (Ne.symm D48) (own_nl (Ne.symm D48) (own_nl (Ne.symm D48) (own_nl (Ne.symm D48) own_nin0))))))) K58 (own_nl (Ne.symm D7) own_nin0)) K78 (own_nr (sl_110 hw) own_nin0)) K88 (own_nl (Ne.symm D48) own_nin0))
  have F119 := (own_F (v := .null) (own_F (v := .null) (own_F (v := .null) (own_F (v := .null) (own_F (v := .null) (own_F (v := .null) (own_F (v := .null) (own_F (v := .null) (own_F (v := .null) (own_F (v := .null) (own_F (v := .null) (own_F (v := .null) (own_F (v := .null) (own_F (v := .null) (D2 (Or.inl (own_w hw 67 rfl)) (ty := (.object zs2)) (by decide)) K6 (own_nr (sl_46 hw) own_nin0)) K12 (own_nr (sl_47 hw) own_nin0)) K17 (own_nr (sl_28 hw) own_nin0)) K22 (own_nr (sl_82 hw) own_nin0)) K25 (own_nl (Ne.symm D7) own_nin0)) K28 (own_nl (Ne.symm D7) own_nin0)) K35 (own_nl (Ne.symm D7) own_nin0)) K38 (own_nl (Ne.symm D7) own_nin0)) K41 (own_nl (Ne.symm D7) own_nin0)) K44 (own_nl (Ne.symm D7) own_nin0)) K45 (own_nl (Ne.symm D48) (own_nl (Ne.symm D48) (own_nl (Ne.symm D48) (own_nl (Ne.symm D48) (own_nl (Ne.symm D48) (own_nl (Ne.symm D48) own_nin0))))))) K58 (own_nl (Ne.symm D7) own_nin0)) K78 (own_nr (sl_109 hw) own_nin0)) K88 (own_nl (Ne.symm D48) own_nin0))
  have F120 := (own_F (v := .null) (own_F (v := .null) (own_F (v := .null) (own_F (v := .null) (own_F (v := .null) (own_F (v := .null) (own_F (v := .null) (own_F (v := .null) (own_F (v := .null) (own_F (v := .null) (own_F (v := .null) (own_F (v := .null) F12 K17 (own_nr (sl_34 hw) own_nin0)) K22 (own_nr (sl_90 hw) own_nin0)) K25 (own_nl (Ne.symm D7) own_nin0)) K28 (own_nl (Ne.symm D7) own_nin0)) K35 (own_nl (Ne.symm D7) own_nin0)) K38 (own_nl (Ne.symm D7) own_nin0)) K41 (own_nl (Ne.symm D7) own_nin0)) K44 (own_nl (Ne.symm D7) own_nin0)) K45 (own_nl (Ne.symm D48) (own_nl (Ne.symm D48) (own_nl (Ne.symm D48) (own_nl (Ne.symm D48) (own_nl (Ne.symm D48) (own_nl (Ne.symm D48) own_nin0))))))) K58 (own_nl (Ne.symm D7) own_nin0)) K78 (own_nr (sl_111 hw) own_nin0)) K88 (own_nl (Ne.symm D48) own_nin0))
  have F121 := (own_F (v := .null) (own_F (v := .null) (own_F (v := .null) (own_F (v := .null) (own_F (v := .null) (own_F (v := .null) (own_F (v := .null) (own_F (v := .null) (own_F (v := .null) (own_F (v := .null) (own_F (v := .null) (own_F (v := .null) (own_F (v := .null) (own_F (v := .null) (D2 (Or.inl (own_w hw 71 rfl)) (ty := (.object zs0)) (by decide)) K6 (own_nr (sl_63 hw) own_nin0)) K12 (own_nr (sl_64 hw) own_nin0)) K17 (own_nr (sl_58 hw) own_nin0)) K22 (own_nr (sl_80 hw) own_nin0)) K25 (own_nl (Ne.symm D7) own_nin0)) K28 (own_nl (Ne.symm D7) own_nin0)) K35 (own_nl (Ne.symm D7) own_nin0)) K38 (own_nl (Ne.symm D7) own_nin0)) K41 (own_nl (Ne.symm D7) own_nin0)) K44 (own_nl (Ne.symm D7) own_nin0)) K45 (own_nl (Ne.symm D48) (own_nl (Ne.symm D48) (own_nl (Ne.symm D48) (own_nl (Ne.symm D48) (own_nl (Ne.symm D48) (own_nl (Ne.symm D48) own_nin0))))))) K58 (own_nl (Ne.symm D7) own_nin0)) K78 (own_nr (sl_104 hw) own_nin0)) K88 (own_nl (Ne.symm D48) own_nin0))
  have F122 := (own_F (v := .null) (own_F (v := .null) (own_F (v := .null) (own_F (v := .null) (own_F (v := .null) (own_F (v := .null) (own_F (v := .null) (own_F (v := .null) (own_F (v := .null) (own_F (v := .null) (own_F (v := .null) (own_F (v := .null) (own_F (v := .null) (own_F (v := .null) (D2 (Or.inl (own_w hw 73 rfl)) (ty := (.object zs0)) (by decide)) K6 (own_nr (sl_70 hw) own_nin0)) K12 (own_nr (sl_71 hw) own_nin0)) K17 (own_nr (sl_65 hw) own_nin0)) K22 (own_nr (sl_79 hw) own_nin0)) K25 (own_nl (Ne.symm D7) own_nin0)) K28 (own_nl (Ne.symm D7) own_nin0)) K35 (own_nl (Ne.symm D7) own_nin0)) K38 (own_nl (Ne.symm D7) own_nin0)) K41 (own_nl (Ne.symm D7) own_nin0)) K44 (own_nl (Ne.symm D7) own_nin0)) K45 (own_nl (Ne.symm D48) (own_nl (Ne.symm D48) (own_nl (Ne.symm D48) (own_nl (Ne.symm D48) (own_nl (Ne.symm D48) (own_nl (Ne.symm D48) own_nin0))))))) K58 (own_nl (Ne.symm D7) own_nin0)) K78 (own_nr (sl_105 hw) own_nin0)) K88 (own_nl (Ne.symm D48) own_nin0))
  have F123 := (own_F (v := .null) (own_F (v := .null) (own_F (v := .null) (own_F (v := .null) (own_F (v := .null) (own_F (v := .null) (own_F (v := .null) (own_F (v := .null) (own_F (v := .null) (own_F (v := .null) F22 K25 (own_nl (Ne.symm D7) own_nin0)) K28 (own_nl (Ne.symm D7) own_nin0)) K35 (own_nl (Ne.symm D7) own_nin0)) K38 (own_nl (Ne.symm D7) own_nin0)) K41 (own_nl (Ne.symm D7) own_nin0)) K44 (own_nl (Ne.symm D7) own_nin0)) K45 (own_nl (Ne.symm D48) (own_nl (Ne.symm D48) (own_nl (Ne.symm D48) (own_nl (Ne.symm D48) (own_nl (Ne.symm D48) (own_nl (Ne.symm D48) own_nin0))))))) K58 (own_nl (Ne.symm D7) own_nin0)) K78 (own_nr (sl_112 hw) own_nin0)) K88 (own_nl (Ne.symm D48) own_nin0))
  have F124 := (own_F (v := .null) (own_F (v := .null) (own_F (v := .null) (own_F (v := .null) (own_F (v := .null) (own_F (v := .null) (own_F (v := .null) (own_F (v := .null) (own_F (v := .null) (own_F (v := .null) (own_F (v := .null) (own_F (v := .null) (own_F (v := .null) (own_F (v := .null) (D2 (Or.inl (own_w hw 82 rfl)) (ty := (.object zs2)) (by decide)) K6 (own_nr (sl_49 hw) own_nin0)) K12 (own_nr (sl_50 hw) own_nin0)) K17 (own_nr (sl_25 hw) own_nin0)) K22 (own_nr (sl_83 hw) own_nin0)) K25 (own_nl (Ne.symm D7) own_nin0)) K28 (own_nl (Ne.symm D7) own_nin0)) K35 (own_nl (Ne.symm D7) own_nin0)) K38 (own_nl (Ne.symm D7) own_nin0)) K41 (own_nl (Ne.symm D7) own_nin0)) K44 (own_nl (Ne.symm D7) own_nin0)) K45 (own_nl (Ne.symm D48) (own_nl (Ne.symm D48) (own_nl (Ne.symm D48) (own_nl (Ne.symm D48) (own_nl (Ne.symm D48) (own_nl (Ne.symm D48) own_nin0))))))) K58 (own_nl (Ne.symm D7) own_nin0)) K78 (own_nr (sl_106 hw) own_nin0)) K88 (own_nl (Ne.symm D48) own_nin0))
  have F125 := (own_F (v := .null) (own_F (v := .null) (own_F (v := .null) (own_F (v := .null) (own_F (v := .null) (own_F (v := .null) (own_F (v := .null) (own_F (v := .null) (own_F (v := .null) (own_F (v := .null) (own_F (v := .null) (own_F (v := .null) (own_F (v := .null) (own_F (v := .null) (D2 (Or.inl (own_w hw 94 rfl)) (ty := (.object zs2)) (by decide)) K6 (own_nr (sl_51 hw) own_nin0)) K12 (own_nr (sl_52 hw) own_nin0)) K17 (own_nr (sl_27 hw) own_nin0)) K22 (own_nr (sl_84 hw) own_nin0)) K25 (own_nl (Ne.symm D7) own_nin0)) K28 (own_nl (Ne.symm D7) own_nin0)) K35 (own_nl (Ne.symm D7) own_nin0)) K38 (own_nl (Ne.symm D7) own_nin0)) K41 (own_nl (Ne.symm D7) own_nin0)) K44 (own_nl (Ne.symm D7) own_nin0)) K45 (own_nl (Ne.symm D48) (own_nl (Ne.symm D48) (own_nl (Ne.symm D48) (own_nl (Ne.symm D48) (own_nl (Ne.symm D48) (own_nl (Ne.symm D48) own_nin0))))))) K58 (own_nl (Ne.symm D7) own_nin0)) K78 (own_nr (sl_108 hw) own_nin0)) K88 (own_nl (Ne.symm D48) own_nin0))
  have F126 := (own_F (v := (.int (2 : Int32))) G78_0 K88 (own_nl (Ne.symm D48) own_nin0))
  exact own_ret0 Y88 hx hlk Bd.returns (hb hby d7_134) ⟨rfl, b2, KC101, le2, F102, F103, F104, F105, F106, F107, F108, F109, F110, F111, F112, F113, F114, G88_0, F115, F116, F117, F118, F119, F120, F121, F122, F123, F124, F125, F126⟩ (by decide) (by decide)
theorem d13_11 : decode prog_25_method_4_code 11 = .ok (.aload_n 0, 1) := by decide +kernel
theorem d13_12 : decode prog_25_method_4_code 12 = .ok (.aload 4, 2) := by decide +kernel
theorem d13_14 : decode prog_25_method_4_code 14 = .ok (.putfield 32, 3) := by decide +kernel
theorem d13_17 : decode prog_25_method_4_code 17 = .ok (.aload_n 0, 1) := by decide +kernel
theorem d13_18 : decode prog_25_method_4_code 18 = .ok (.aload_n 3, 1) := by decide +kernel
theorem d13_19 : decode prog_25_method_4_code 19 = .ok (.putfield 36, 3) := by decide +kernel
theorem d13_22 : decode prog_25_method_4_code 22 = .ok (.goto 65, 3) := by decide +kernel
def P13_46 (Z : State) (a1 : Addr) (a2 : Addr) (h0 : Heap) (h : Heap) : Prop := own_Kp h0 h [(a1, Jvm.RoadKit.slotOf Z zs0 "key2" zs1), (a1, Jvm.RoadKit.slotOf Z zs0 "value2" zs1)] ∧ Fld Z h a1 zs0 "key2" zs1 (.ref a2) ∧ Fld Z h a1 zs0 "value2" zs1 .null
theorem P13_46_sz {Z : State} {a1 : Addr} {a2 : Addr} {h0 : Heap} : ∀ v h', (own_R none (P13_46 Z a1 a2 h0)) v h' → Array.size h0 ≤ Array.size h' := by
  intro v h' q
  obtain ⟨-, K, -⟩ := q
  exact K.1
set_option maxRecDepth 65536 in
set_option maxHeartbeats 40000000 in
theorem rm13_46 (l : Launch) (Z : State) (a0 : Array Value) (hw : ∀ d ∈ tables_1, d.before a0 Z = true) (ws : List Jvm.Cond) (a1 : Addr) (a2 : Addr) (h0 : Heap) (n0 : Nat) (Z0 : n0 ≤ Array.size h0) (P0 : Sta Z h0 zs0 "NULL_KEY" zs1 (.ref a2)) (P1 : Fld Z h0 a1 zs0 "key2" zs1 .null) (P2 : Exa Z h0 a1 zs0) (P3 : n0 ≤ a1) (P4 : Fld Z h0 a1 zs0 "value2" zs1 .null) :
    MetFree l (⟨zs0, "insertEntry", zs20⟩ : MethodName) (head1 (Jvm.Cond.code (⟨zs0, "insertEntry", zs20⟩ : MethodName) prog_25_method_4_code 5 none :: ws) ({ frames := 1, cells := 0, slots := 0, locals := 12 } : Room)) (fun a U => a = #[(.ref a1), (.int (2 : Int32)), .null, .null] ∧ Z.Warmed39 U.vm ∧ U.heap = h0) (fun _ _ _ _ _ => True) (fun _ U o U' => ∃ v L, o = .returned v ∧ own_QQ n0 (own_R none (P13_46 Z a1 a2 h0)) v U'.heap L ∧ FrameEnd U o U' L ({ frames := 1, cells := 0, slots := 0, locals := 12 } : Room).cells ({ frames := 1, cells := 0, slots := 0, locals := 12 } : Room).slots) := by
  refine MetFree.of_bodySF (plainFor_of_name pn_com_example_napkintree_napkintree_balancing_MultiwayTree_Node) hisR ?_
  intro p e s m args below meth c s₁ Bd hml0 hP hK
  obtain ⟨rfl, hZ, hh⟩ := hP
  have hx := Bd.exec
  have hby := Bd.bytes
  have hml : c.maxLocals = 5 := hml0
  have hown : s.vm.findClass zs0 = some m.cls := findClass_of_methodNamed Bd.named
  have hnm := (name_of_methodNamed Bd.named Bd.method).1
  have hlk : meth.locks = false := BodyLoose.notSynchronized Bd
  have Y0 : own_S p l e ({ frames := 1, cells := 0, slots := 0, locals := 12 } : Room) s m #[(.ref a1), (.int (2 : Int32)), .null, .null] below meth c n0 s₁ h0 0 0 := ⟨[], Stand.of_body Bd, Fr.nil n0, by rw [← hh, Bd.state]; rfl, Z0⟩
  refine (?_ : own_Fin p e below _ _)
  refine own_st (fun t k => castTop (ef_13_RINN m a1 (2 : Int32)) k) ?_
  refine own_aloadN Y0 hx (pc' := 1) (hb hby d13_0) rfl rfl rfl ?_
  refine own_static Y0 hx (pc' := 4) (W := 0) (cl' := 0) (sl' := 0) (as' := [.null]) (S' := []) hZ hown (own_w hw 107 rfl) (own_w hw 108 rfl) (own_w hw 3 rfl) (own_w hw 109 rfl) (by decide) (rm14_9 l Z a0 hw [] a2 h0 n0 (own_sz Y0) P0) (hb hby d13_1) rfl (by rw [hml]; rfl) rfl (lenOf pd__Ljava_lang_Object__Ljava_lang_Object_ rfl) rfl (by decide) (by decide) rfl rfl (by decide) (by decide) own_Same.sz (own_fixS (S2 := [(.ref a2)]) rfl (fun T1 Y1 => ?_))
  refine own_astore Y1 hx (pc' := 6) (Ls' := #[.val (.ref a1), .val (.int (2 : Int32)), .val .null, .val .null, .val (.ref a2)]) (hb hby d13_4) rfl rfl rfl ?_
  refine own_iloadN Y1 hx (pc' := 7) (hb hby d13_6) rfl rfl ?_
  refine own_iconst Y1 hx (pc' := 8) (x := (2 : Int32)) (hb hby d13_7) rfl (by decide) ?_
  refine own_icmpNo Y1 hx (pc' := 11) (hb hby d13_8) rfl (by decide) ?_
  refine own_aloadN Y1 hx (pc' := 12) (hb hby d13_11) rfl rfl rfl ?_
  refine own_aload Y1 hx (pc' := 14) (hb hby d13_12) rfl rfl rfl ?_
  refine own_putF Y1 hx (pc' := 17) hZ hown (host := "") (Or.inl (own_w hw 110 rfl)) Via.refl P1 P2 (Or.inl (own_w hw 63 rfl)) (own_w hw 2 rfl) (ty := (.object zs2)) (by decide) rfl rfl P3 (hb hby d13_14) rfl (fun T2 h2 Y2 K2 F2 => ?_)
  refine own_aloadN Y2 hx (pc' := 18) (hb hby d13_17) rfl rfl rfl ?_
  refine own_aloadN Y2 hx (pc' := 19) (hb hby d13_18) rfl rfl rfl ?_
  have F3 := (own_F (v := .null) P4 K2 (own_nr (sl_23 hw) own_nin0))
  have F4 := (own_E P2 K2)
  refine own_putF Y2 hx (pc' := 22) hZ hown (host := "") (Or.inl (own_w hw 111 rfl)) Via.refl F3 F4 (Or.inl (own_w hw 67 rfl)) (own_w hw 2 rfl) (ty := (.object zs2)) (by decide) rfl rfl P3 (hb hby d13_19) rfl (fun T5 h5 Y5 K5 F5 => ?_)
  refine own_goto Y5 hx (pc' := 87) (hb hby d13_22) (by decide) (by decide) ?_
  have KC6 : own_Kp h0 h5 [(a1, Jvm.RoadKit.slotOf Z zs0 "key2" zs1), (a1, Jvm.RoadKit.slotOf Z zs0 "value2" zs1)] := (((own_Kp.refl h0 [(a1, Jvm.RoadKit.slotOf Z zs0 "key2" zs1), (a1, Jvm.RoadKit.slotOf Z zs0 "value2" zs1)]).trans K2 (own_allS (Or.inl (List.mem_of_getElem? (i := 0) rfl)) own_all0)).trans K5 (own_allS (Or.inl (List.mem_of_getElem? (i := 1) rfl)) own_all0))
  have F7 := (own_F (v := (.ref a2)) F2 K5 (own_nr (sl_42 hw) own_nin0))
  exact own_ret0 Y5 hx hlk Bd.returns (hb hby d13_87) ⟨rfl, KC6, F7, F5⟩ (by decide) (by decide)
theorem d16_5 : decode prog_25_method_6_code 5 = .ok (.aload_n 0, 1) := by decide +kernel
theorem d16_6 : decode prog_25_method_6_code 6 = .ok (.aload_n 2, 1) := by decide +kernel
theorem d16_7 : decode prog_25_method_6_code 7 = .ok (.putfield 51, 3) := by decide +kernel
theorem d16_10 : decode prog_25_method_6_code 10 = .ok (.goto 58, 3) := by decide +kernel
def P16_47 (Z : State) (a1 : Addr) (a2 : Addr) (h0 : Heap) (h : Heap) : Prop := own_Kp h0 h [(a1, Jvm.RoadKit.slotOf Z zs0 "child3" zs16)] ∧ Fld Z h a1 zs0 "child3" zs16 (.ref a2)
theorem P16_47_sz {Z : State} {a1 : Addr} {a2 : Addr} {h0 : Heap} : ∀ v h', (own_R none (P16_47 Z a1 a2 h0)) v h' → Array.size h0 ≤ Array.size h' := by
  intro v h' q
  obtain ⟨-, K, -⟩ := q
  exact K.1
set_option maxRecDepth 65536 in
set_option maxHeartbeats 40000000 in
theorem rm16_47 (l : Launch) (Z : State) (a0 : Array Value) (hw : ∀ d ∈ tables_1, d.before a0 Z = true) (ws : List Jvm.Cond) (a1 : Addr) (a2 : Addr) (h0 : Heap) (n0 : Nat) (Z0 : n0 ≤ Array.size h0) (P0 : Fld Z h0 a1 zs0 "child3" zs16 .null) (P1 : Exa Z h0 a1 zs0) (P2 : n0 ≤ a1) :
    MetFree l (⟨zs0, "insertChild", zs21⟩ : MethodName) (head1 (Jvm.Cond.code (⟨zs0, "insertChild", zs21⟩ : MethodName) prog_25_method_6_code 3 none :: ws) ({ frames := 0, cells := 0, slots := 0, locals := 0 } : Room)) (fun a U => a = #[(.ref a1), (.int (3 : Int32)), (.ref a2)] ∧ Z.Warmed39 U.vm ∧ U.heap = h0) (fun _ _ _ _ _ => True) (fun _ U o U' => ∃ v L, o = .returned v ∧ own_QQ n0 (own_R none (P16_47 Z a1 a2 h0)) v U'.heap L ∧ FrameEnd U o U' L ({ frames := 0, cells := 0, slots := 0, locals := 0 } : Room).cells ({ frames := 0, cells := 0, slots := 0, locals := 0 } : Room).slots) := by
  refine MetFree.of_bodySF (plainFor_of_name pn_com_example_napkintree_napkintree_balancing_MultiwayTree_Node) hisR ?_
  intro p e s m args below meth c s₁ Bd hml0 hP hK
  obtain ⟨rfl, hZ, hh⟩ := hP
  have hx := Bd.exec
  have hby := Bd.bytes
  have hml : c.maxLocals = 3 := hml0
  have hown : s.vm.findClass zs0 = some m.cls := findClass_of_methodNamed Bd.named
  have hnm := (name_of_methodNamed Bd.named Bd.method).1
  have hlk : meth.locks = false := BodyLoose.notSynchronized Bd
  have Y0 : own_S p l e ({ frames := 0, cells := 0, slots := 0, locals := 0 } : Room) s m #[(.ref a1), (.int (3 : Int32)), (.ref a2)] below meth c n0 s₁ h0 0 0 := ⟨[], Stand.of_body Bd, Fr.nil n0, by rw [← hh, Bd.state]; rfl, Z0⟩
  refine (?_ : own_Fin p e below _ _)
  refine own_st (fun t k => castTop (ef_16_RIR m a1 (3 : Int32) a2) k) ?_
  refine own_iloadN Y0 hx (pc' := 1) (hb hby d16_0) rfl rfl ?_
  refine own_iconst Y0 hx (pc' := 2) (x := (3 : Int32)) (hb hby d16_1) rfl (by decide) ?_
  refine own_icmpNo Y0 hx (pc' := 5) (hb hby d16_2) rfl (by decide) ?_
  refine own_aloadN Y0 hx (pc' := 6) (hb hby d16_5) rfl rfl rfl ?_
  refine own_aloadN Y0 hx (pc' := 7) (hb hby d16_6) rfl rfl rfl ?_
  refine own_putF Y0 hx (pc' := 10) hZ hown (host := "") (Or.inl (own_w hw 124 rfl)) Via.refl P0 P1 (Or.inl (own_w hw 73 rfl)) (own_w hw 2 rfl) (ty := (.object zs0)) (by decide) rfl rfl P2 (hb hby d16_7) rfl (fun T1 h1 Y1 K1 F1 => ?_)
  refine own_goto Y1 hx (pc' := 68) (hb hby d16_10) (by decide) (by decide) ?_
  have KC2 : own_Kp h0 h1 [(a1, Jvm.RoadKit.slotOf Z zs0 "child3" zs16)] := ((own_Kp.refl h0 [(a1, Jvm.RoadKit.slotOf Z zs0 "child3" zs16)]).trans K1 (own_allS (Or.inl (List.mem_of_getElem? (i := 0) rfl)) own_all0))
  exact own_ret0 Y1 hx hlk Bd.returns (hb hby d16_68) ⟨rfl, KC2, F1⟩ (by decide) (by decide)
def P12_48 (Z : State) (a1 : Addr) (a2 : Addr) (a3 : Addr) (a4 : Addr) (h0 : Heap) (h : Heap) : Prop := own_Kp h0 h [(a1, Jvm.RoadKit.slotOf Z zs0 "key2" zs1), (a1, Jvm.RoadKit.slotOf Z zs0 "value2" zs1), (a1, Jvm.RoadKit.slotOf Z zs0 "child3" zs16)] ∧ Fld Z h a1 zs0 "key2" zs1 (.ref a3) ∧ Fld Z h a1 zs0 "value2" zs1 .null ∧ Fld Z h a1 zs0 "child3" zs16 (.ref a2)
theorem P12_48_sz {Z : State} {a1 : Addr} {a2 : Addr} {a3 : Addr} {a4 : Addr} {h0 : Heap} : ∀ v h', (own_R none (P12_48 Z a1 a2 a3 a4 h0)) v h' → Array.size h0 ≤ Array.size h' := by
  intro v h' q
  obtain ⟨-, K, -⟩ := q
  exact K.1
set_option maxRecDepth 65536 in
set_option maxHeartbeats 40000000 in
theorem rm12_48 (l : Launch) (Z : State) (a0 : Array Value) (hw : ∀ d ∈ tables_1, d.before a0 Z = true) (ws : List Jvm.Cond) (a1 : Addr) (a2 : Addr) (a3 : Addr) (a4 : Addr) (h0 : Heap) (n0 : Nat) (Z0 : n0 ≤ Array.size h0) (P0 : Exa Z h0 a1 zs0) (P1 : Sta Z h0 zs0 "NULL_KEY" zs1 (.ref a3)) (P2 : Fld Z h0 a1 zs0 "key2" zs1 .null) (P3 : n0 ≤ a1) (P4 : Fld Z h0 a1 zs0 "value2" zs1 .null) (P5 : Fld Z h0 a1 zs0 "child0" zs16 (.ref a4)) (P6 : Fld Z h0 a1 zs0 "child3" zs16 .null) :
    MetFree l (⟨zs0, "insert", zs22⟩ : MethodName) (head1 (Jvm.Cond.code (⟨zs0, "insert", zs22⟩ : MethodName) prog_25_method_2_code 6 none :: ws) ({ frames := 2, cells := 0, slots := 0, locals := 28 } : Room)) (fun a U => a = #[(.ref a1), (.int (2 : Int32)), .null, .null, (.int (3 : Int32)), (.ref a2)] ∧ Z.Warmed39 U.vm ∧ U.heap = h0) (fun _ _ _ _ _ => True) (fun _ U o U' => ∃ v L, o = .returned v ∧ own_QQ n0 (own_R none (P12_48 Z a1 a2 a3 a4 h0)) v U'.heap L ∧ FrameEnd U o U' L ({ frames := 2, cells := 0, slots := 0, locals := 28 } : Room).cells ({ frames := 2, cells := 0, slots := 0, locals := 28 } : Room).slots) := by
  refine MetFree.of_bodySF (plainFor_of_name pn_com_example_napkintree_napkintree_balancing_MultiwayTree_Node) hisR ?_
  intro p e s m args below meth c s₁ Bd hml0 hP hK
  obtain ⟨rfl, hZ, hh⟩ := hP
  have hx := Bd.exec
  have hby := Bd.bytes
  have hml : c.maxLocals = 6 := hml0
  have hown : s.vm.findClass zs0 = some m.cls := findClass_of_methodNamed Bd.named
  have hnm := (name_of_methodNamed Bd.named Bd.method).1
  have hlk : meth.locks = false := BodyLoose.notSynchronized Bd
  have Y0 : own_S p l e ({ frames := 2, cells := 0, slots := 0, locals := 28 } : Room) s m #[(.ref a1), (.int (2 : Int32)), .null, .null, (.int (3 : Int32)), (.ref a2)] below meth c n0 s₁ h0 0 0 := ⟨[], Stand.of_body Bd, Fr.nil n0, by rw [← hh, Bd.state]; rfl, Z0⟩
  refine (?_ : own_Fin p e below _ _)
  refine own_st (fun t k => castTop (ef_12_RINNIR m a1 (2 : Int32) (3 : Int32) a2) k) ?_
  refine own_aloadN Y0 hx (pc' := 1) (hb hby d12_0) rfl rfl rfl ?_
  refine own_iloadN Y0 hx (pc' := 2) (hb hby d12_1) rfl rfl ?_
  refine own_aloadN Y0 hx (pc' := 3) (hb hby d12_2) rfl rfl rfl ?_
  refine own_aloadN Y0 hx (pc' := 4) (hb hby d12_3) rfl rfl rfl ?_
  refine own_virtual Y0 hx (pc' := 7) (W := 0) (cl' := 0) (sl' := 0) (as' := [(.int (2 : Int32)), .null, .null]) (S' := []) (a := a1) hZ hown (own_w hw 102 rfl) (own_w hw 103 rfl) (notFace_of_selects (args := #[]) (mvT hZ (own_w hw 105 rfl))) (own_w hw 105 rfl) (own_w hw 104 rfl) (own_w hw 3 rfl) (own_w hw 106 rfl) (by decide) P0 (rm13_46 l Z a0 hw [] a1 a3 h0 n0 (own_sz Y0) P1 P2 P0 P3 P4) (hb hby d12_4) rfl (by rw [hml]; rfl) rfl (lenOf pd__ILjava_lang_Object_Ljava_lang_Object__V rfl) rfl (by decide) (by decide) rfl rfl (by decide) (by decide) P13_46_sz (own_fixR (S2 := []) rfl (fun T1 h1 Y1 R1 => ?_))
  obtain ⟨K1, G1_0, G1_1⟩ := R1
  refine own_aloadN Y1 hx (pc' := 8) (hb hby d12_7) rfl rfl rfl ?_
  have F3 := (own_E P0 K1)
  have F4 := (own_F (v := (.ref a4)) P5 K1 (own_nr (sl_54 hw) (own_nr (sl_55 hw) own_nin0)))
  refine own_virtual Y1 hx (pc' := 11) (W := 0) (cl' := 0) (sl' := 0) (as' := []) (S' := []) (a := a1) hZ hown (own_w hw 114 rfl) (own_w hw 115 rfl) (notFace_of_selects (args := #[]) (mvT hZ (own_w hw 117 rfl))) (own_w hw 117 rfl) (own_w hw 116 rfl) (own_w hw 3 rfl) (own_w hw 118 rfl) (by decide) F3 (rm15_11 l Z a0 hw [] a1 a4 h1 n0 (own_sz Y1) F4) (hb hby d12_8) rfl (by rw [hml]; rfl) rfl (lenOf pd___Z rfl) rfl (by decide) (by decide) rfl rfl (by decide) (by decide) own_Same.sz (own_fixS (S2 := [(.int (0 : Int32))]) rfl (fun T2 Y2 => ?_))
  refine own_ifNo Y2 hx (pc' := 14) (hb hby d12_11) rfl (by decide) ?_
  refine own_aloadN Y2 hx (pc' := 15) (hb hby d12_14) rfl rfl rfl ?_
  refine own_iload Y2 hx (pc' := 17) (hb hby d12_15) rfl rfl ?_
  refine own_aload Y2 hx (pc' := 19) (hb hby d12_17) rfl rfl rfl ?_
  have F6 := (own_F (v := .null) P6 K1 (own_nr (sl_66 hw) (own_nr (sl_67 hw) own_nin0)))
  refine own_private Y2 hx (pc' := 22) (W := 0) (cl' := 0) (sl' := 0) (as' := [(.int (3 : Int32)), (.ref a2)]) (S' := []) (a := a1) hZ hown (own_w hw 119 rfl) (own_w hw 120 rfl) (own_selP hZ (own_nfI (own_w hw 2 rfl)) (own_w hw 121 rfl) (own_w hw 120 rfl) (by decide)) (own_w hw 121 rfl) (own_w hw 3 rfl) (own_w hw 122 rfl) (by decide) F3 (rm16_47 l Z a0 hw [] a1 a2 h1 n0 (own_sz Y2) F6 F3 P3) (hb hby d12_19) rfl (by rw [hml]; rfl) rfl (lenOf pd__ILcom_example_napkintree_napkintree_balancing_MultiwayTree_Node__V rfl) rfl (by decide) (by decide) rfl rfl (by decide) (by decide) P16_47_sz (own_fixR (S2 := []) rfl (fun T5 h5 Y5 R5 => ?_))
  obtain ⟨K5, G5_0⟩ := R5
  have KC7 : own_Kp h0 h5 [(a1, Jvm.RoadKit.slotOf Z zs0 "key2" zs1), (a1, Jvm.RoadKit.slotOf Z zs0 "value2" zs1), (a1, Jvm.RoadKit.slotOf Z zs0 "child3" zs16)] := (((own_Kp.refl h0 [(a1, Jvm.RoadKit.slotOf Z zs0 "key2" zs1), (a1, Jvm.RoadKit.slotOf Z zs0 "value2" zs1), (a1, Jvm.RoadKit.slotOf Z zs0 "child3" zs16)]).trans K1 (own_allS (Or.inl (List.mem_of_getElem? (i := 0) rfl)) (own_allS (Or.inl (List.mem_of_getElem? (i := 1) rfl)) own_all0))).trans K5 (own_allS (Or.inl (List.mem_of_getElem? (i := 2) rfl)) own_all0))
  have F8 := (own_F (v := (.ref a3)) G1_0 K5 (own_nr (sl_16 hw) own_nin0))
  have F9 := (own_F (v := .null) G1_1 K5 (own_nr (sl_21 hw) own_nin0))
  exact own_ret0 Y5 hx hlk Bd.returns (hb hby d12_22) ⟨rfl, KC7, F8, F9, G5_0⟩ (by decide) (by decide)
def P7_49 (Z : State) (a1 : Addr) (a2 : Addr) (a3 : Addr) (a4 : Addr) (a5 : Addr) (a6 : Addr) (a7 : Addr) (h0 : Heap) (h : Heap) : Prop := ∃ b2 : Addr, own_Kp h0 h [(a3, Jvm.RoadKit.slotOf Z zs0 "child2" zs16), (a3, Jvm.RoadKit.slotOf Z zs0 "child3" zs16), (a3, Jvm.RoadKit.slotOf Z zs0 "key1" zs1), (a3, Jvm.RoadKit.slotOf Z zs0 "key2" zs1), (a3, Jvm.RoadKit.slotOf Z zs0 "value1" zs1), (a3, Jvm.RoadKit.slotOf Z zs0 "value2" zs1), (a2, Jvm.RoadKit.slotOf Z zs0 "key2" zs1), (a2, Jvm.RoadKit.slotOf Z zs0 "value2" zs1), (a2, Jvm.RoadKit.slotOf Z zs0 "child3" zs16), (a3, Jvm.RoadKit.slotOf Z zs0 "mark" "I"), (a2, Jvm.RoadKit.slotOf Z zs0 "mark" "I")] ∧ Array.size h0 ≤ b2 ∧ Fld Z h a3 zs0 "child2" zs16 .null ∧ Fld Z h a3 zs0 "child3" zs16 .null ∧ Fld Z h a3 zs0 "key1" zs1 .null ∧ Fld Z h a3 zs0 "key2" zs1 .null ∧ Fld Z h a3 zs0 "value1" zs1 .null ∧ Fld Z h a3 zs0 "value2" zs1 .null ∧ Fld Z h a2 zs0 "key2" zs1 (.ref a4) ∧ Fld Z h a2 zs0 "value2" zs1 .null ∧ Fld Z h a2 zs0 "child3" zs16 (.ref b2) ∧ Fld Z h a3 zs0 "mark" "I" (.int (2 : Int32)) ∧ Fld Z h a2 zs0 "mark" "I" (.int (1 : Int32)) ∧ Exa Z h b2 zs0 ∧ Fld Z h b2 zs0 "child0" zs16 .null ∧ Fld Z h b2 zs0 "key2" zs1 .null ∧ Fld Z h b2 zs0 "key0" zs1 .null ∧ Fld Z h b2 zs0 "value2" zs1 .null ∧ Fld Z h b2 zs0 "value0" zs1 .null ∧ Fld Z h b2 zs0 "child2" zs16 .null ∧ Fld Z h b2 zs0 "child3" zs16 .null ∧ Fld Z h b2 zs0 "child1" zs16 .null ∧ Fld Z h b2 zs0 "key1" zs1 .null ∧ Fld Z h b2 zs0 "value1" zs1 .null ∧ Fld Z h b2 zs0 "mark" "I" (.int (2 : Int32))
theorem P7_49_sz {Z : State} {a1 : Addr} {a2 : Addr} {a3 : Addr} {a4 : Addr} {a5 : Addr} {a6 : Addr} {a7 : Addr} {h0 : Heap} : ∀ v h', (own_R none (P7_49 Z a1 a2 a3 a4 a5 a6 a7 h0)) v h' → Array.size h0 ≤ Array.size h' := by
  intro v h' q
  obtain ⟨-, _, K, -⟩ := q
  exact K.1
set_option maxRecDepth 65536 in
set_option maxHeartbeats 40000000 in
theorem rm7_49 (l : Launch) (Z : State) (a0 : Array Value) (hw : ∀ d ∈ tables_1, d.before a0 Z = true) (ws : List Jvm.Cond) (a1 : Addr) (a2 : Addr) (a3 : Addr) (a4 : Addr) (a5 : Addr) (a6 : Addr) (a7 : Addr) (h0 : Heap) (n0 : Nat) (Z0 : n0 ≤ Array.size h0) (P0 : Exa Z h0 a2 zs0) (P1 : Fld Z h0 a2 zs0 "child2" zs16 (.ref a3)) (P2 : Fld Z h0 a3 zs0 "key2" zs1 .null) (P3 : Fld Z h0 a3 zs0 "value2" zs1 .null) (P4 : Exa Z h0 a3 zs0) (P5 : Fld Z h0 a3 zs0 "child2" zs16 .null) (P6 : Fld Z h0 a3 zs0 "child3" zs16 .null) (P7 : n0 ≤ a3) (P8 : Fld Z h0 a3 zs0 "key1" zs1 .null) (P9 : Sta Z h0 zs0 "NULL_KEY" zs1 (.ref a4)) (P10 : Fld Z h0 a3 zs0 "value1" zs1 .null) (P11 : Fld Z h0 a2 zs0 "key2" zs1 .null) (P12 : a2 ≠ a3) (P13 : n0 ≤ a2) (P14 : Fld Z h0 a2 zs0 "value2" zs1 .null) (P15 : Fld Z h0 a2 zs0 "child0" zs16 (.ref a5)) (P16 : Fld Z h0 a2 zs0 "child3" zs16 .null) (P17 : Sta Z h0 zs3 "SPLIT" zs4 (.ref a6)) (P18 : Exa Z h0 a1 zs9) (P19 : Fld Z h0 a1 zs7 "shapeCount" "I" (.int (0 : Int32))) (P20 : Sta Z h0 zs6 "MARK_BITS" "I" (.int (2 : Int32))) (P21 : Exa Z h0 a6 zs3) (P22 : Fld Z h0 a6 zs5 "ordinal" "I" (.int (1 : Int32))) (P23 : Fld Z h0 a3 zs0 "mark" "I" (.int (2 : Int32))) (P24 : Sta Z h0 zs3 "ABSORBED" zs4 (.ref a7)) (P25 : Exa Z h0 a7 zs3) (P26 : Fld Z h0 a7 zs5 "ordinal" "I" (.int (0 : Int32))) (P27 : Fld Z h0 a2 zs0 "mark" "I" (.int (1 : Int32))) :
    MetFree l (⟨zs6, "splitChild", zs24⟩ : MethodName) (head1 (Jvm.Cond.code (⟨zs6, "splitChild", zs24⟩ : MethodName) prog_24_method_6_code 7 none :: ws) ({ frames := 3, cells := 1, slots := 11, locals := 45 } : Room)) (fun a U => a = #[(.ref a1), (.ref a2), (.int (2 : Int32))] ∧ Z.Warmed39 U.vm ∧ U.heap = h0) (fun _ _ _ _ _ => True) (fun _ U o U' => ∃ v L, o = .returned v ∧ own_QQ n0 (own_R none (P7_49 Z a1 a2 a3 a4 a5 a6 a7 h0)) v U'.heap L ∧ FrameEnd U o U' L ({ frames := 3, cells := 1, slots := 11, locals := 45 } : Room).cells ({ frames := 3, cells := 1, slots := 11, locals := 45 } : Room).slots) := by
  refine MetFree.of_bodySF (plainFor_of_name pn_com_example_napkintree_napkintree_balancing_MultiwayTree) hisR ?_
  intro p e s m args below meth c s₁ Bd hml0 hP hK
  obtain ⟨rfl, hZ, hh⟩ := hP
  have hx := Bd.exec
  have hby := Bd.bytes
  have hml : c.maxLocals = 7 := hml0
  have hown : s.vm.findClass zs6 = some m.cls := findClass_of_methodNamed Bd.named
  have hnm := (name_of_methodNamed Bd.named Bd.method).1
  have hlk : meth.locks = false := BodyLoose.notSynchronized Bd
  have Y0 : own_S p l e ({ frames := 3, cells := 1, slots := 11, locals := 45 } : Room) s m #[(.ref a1), (.ref a2), (.int (2 : Int32))] below meth c n0 s₁ h0 0 0 := ⟨[], Stand.of_body Bd, Fr.nil n0, by rw [← hh, Bd.state]; rfl, Z0⟩
  refine (?_ : own_Fin p e below _ _)
  refine own_st (fun t k => castTop (ef_7_RRI m a1 a2 (2 : Int32)) k) ?_
  refine own_aloadN Y0 hx (pc' := 1) (hb hby d7_0) rfl rfl rfl ?_
  refine own_iloadN Y0 hx (pc' := 2) (hb hby d7_1) rfl rfl ?_
  refine own_virtual Y0 hx (pc' := 5) (W := 0) (cl' := 0) (sl' := 0) (as' := [(.int (2 : Int32))]) (S' := []) (a := a2) hZ hown (own_w hw 56 rfl) (own_w hw 57 rfl) (notFace_of_selects (args := #[]) (mvT hZ (own_w hw 59 rfl))) (own_w hw 59 rfl) (own_w hw 58 rfl) (own_w hw 3 rfl) (own_w hw 60 rfl) (by decide) P0 (rm8_38 l Z a0 hw [] a2 a3 h0 n0 (own_sz Y0) P1) (hb hby d7_2) rfl (by rw [hml]; rfl) rfl (lenOf pd__I_Lcom_example_napkintree_napkintree_balancing_MultiwayTree_Node_ rfl) rfl (by decide) (by decide) rfl rfl (by decide) (by decide) own_Same.sz (own_fixS (S2 := [(.ref a3)]) rfl (fun T1 Y1 => ?_))
  refine own_astoreN Y1 hx (pc' := 6) (Ls' := #[.val (.ref a1), .val (.ref a2), .val (.int (2 : Int32)), .val (.ref a3), .unset, .unset, .unset]) (hb hby d7_5) rfl rfl rfl ?_
  refine own_new Y1 hx (pc' := 9) (cl' := 1) (sl' := 11) hZ hown (own_w hw 44 rfl) (own_w hw 2 rfl) (own_w hw 3 rfl) (hb hby d7_6) rfl rfl rfl (by decide) (by decide) (fun T2 h2 b2 Y2 K2 le2 E2 D2 => ?_)
  refine own_dup Y2 hx (pc' := 10) (hb hby d7_9) rfl rfl ?_
  refine own_special Y2 hx (pc' := 13) (W := 1) (cl' := 1) (sl' := 11) (as' := []) (S' := [(.ref b2)]) (a := b2) rfl hZ hown (own_w hw 45 rfl) (own_w hw 5 rfl) (own_w hw 3 rfl) (own_w hw 6 rfl) (by decide) (rm1_1 l Z a0 hw [] b2 h2 n0 (own_sz Y2)) (hb hby d7_10) rfl (by rw [hml]; rfl) rfl (lenOf pd___V rfl) rfl (by decide) (by decide) rfl rfl (by decide) (by decide) own_Same.sz (own_fixS (S2 := [(.ref b2)]) rfl (fun T3 Y3 => ?_))
  refine own_astore Y3 hx (pc' := 15) (Ls' := #[.val (.ref a1), .val (.ref a2), .val (.int (2 : Int32)), .val (.ref a3), .val (.ref b2), .unset, .unset]) (hb hby d7_13) rfl rfl rfl ?_
  refine own_aload Y3 hx (pc' := 17) (hb hby d7_15) rfl rfl rfl ?_
  refine own_aloadN Y3 hx (pc' := 18) (hb hby d7_17) rfl rfl rfl ?_
  have F4 := (own_F (v := .null) P2 K2 own_nin0)
  refine own_getF Y3 hx (pc' := 21) (v := .null) hZ hown (Or.inr (own_w hw 62 rfl)) Via.refl F4 (hb hby d7_18) rfl (fun T5 Y5 => ?_)
  refine own_putF Y5 hx (pc' := 24) hZ hown (Or.inr (own_w hw 64 rfl)) Via.refl (D2 (Or.inl (own_w hw 65 rfl)) (ty := (.object zs2)) (by decide)) E2 (Or.inl (own_w hw 65 rfl)) (own_w hw 2 rfl) (ty := (.object zs2)) (by decide) rfl rfl (Nat.le_trans Z0 le2) (hb hby d7_21) rfl (fun T6 h6 Y6 K6 F6 => ?_)
  refine own_aload Y6 hx (pc' := 26) (hb hby d7_24) rfl rfl rfl ?_
  refine own_aloadN Y6 hx (pc' := 27) (hb hby d7_26) rfl rfl rfl ?_
  have D7 : a3 ≠ b2 := (Nat.ne_of_lt (Nat.lt_of_lt_of_le P4.lt le2))
  have F8 := (own_F (v := .null) (own_F (v := .null) P3 K2 own_nin0) K6 (own_nl D7 own_nin0))
  refine own_getF Y6 hx (pc' := 30) (v := .null) hZ hown (Or.inr (own_w hw 66 rfl)) Via.refl F8 (hb hby d7_27) rfl (fun T9 Y9 => ?_)
  have F10 := (own_F (v := .null) (D2 (Or.inl (own_w hw 69 rfl)) (ty := (.object zs2)) (by decide)) K6 (own_nr (sl_4 hw) own_nin0))
  have F11 := (own_E E2 K6)
  refine own_putF Y9 hx (pc' := 33) hZ hown (Or.inr (own_w hw 68 rfl)) Via.refl F10 F11 (Or.inl (own_w hw 69 rfl)) (own_w hw 2 rfl) (ty := (.object zs2)) (by decide) rfl rfl (Nat.le_trans Z0 le2) (hb hby d7_30) rfl (fun T12 h12 Y12 K12 F12 => ?_)
  refine own_aload Y12 hx (pc' := 35) (hb hby d7_33) rfl rfl rfl ?_
  refine own_aloadN Y12 hx (pc' := 36) (hb hby d7_35) rfl rfl rfl ?_
  have F13 := (own_F (v := .null) (own_F (v := .null) (own_F (v := .null) P5 K2 own_nin0) K6 (own_nl D7 own_nin0)) K12 (own_nl D7 own_nin0))
  refine own_getF Y12 hx (pc' := 39) (v := .null) hZ hown (Or.inr (own_w hw 70 rfl)) Via.refl F13 (hb hby d7_36) rfl (fun T14 Y14 => ?_)
  have F15 := (own_F (v := .null) (own_F (v := .null) (D2 (Or.inl (own_w hw 50 rfl)) (ty := (.object zs0)) (by decide)) K6 (own_nr (sl_5 hw) own_nin0)) K12 (own_nr (sl_6 hw) own_nin0))
  have F16 := (own_E F11 K12)
  refine own_putF Y14 hx (pc' := 42) hZ hown (Or.inr (own_w hw 49 rfl)) Via.refl F15 F16 (Or.inl (own_w hw 50 rfl)) (own_w hw 2 rfl) (ty := (.object zs0)) (by decide) rfl rfl (Nat.le_trans Z0 le2) (hb hby d7_39) rfl (fun T17 h17 Y17 K17 F17 => ?_)
  refine own_aload Y17 hx (pc' := 44) (hb hby d7_42) rfl rfl rfl ?_
  refine own_aloadN Y17 hx (pc' := 45) (hb hby d7_44) rfl rfl rfl ?_
  have F18 := (own_F (v := .null) (own_F (v := .null) (own_F (v := .null) (own_F (v := .null) P6 K2 own_nin0) K6 (own_nl D7 own_nin0)) K12 (own_nl D7 own_nin0)) K17 (own_nl D7 own_nin0))
  refine own_getF Y17 hx (pc' := 48) (v := .null) hZ hown (Or.inr (own_w hw 72 rfl)) Via.refl F18 (hb hby d7_45) rfl (fun T19 Y19 => ?_)
  have F20 := (own_F (v := .null) (own_F (v := .null) (own_F (v := .null) (D2 (Or.inl (own_w hw 75 rfl)) (ty := (.object zs0)) (by decide)) K6 (own_nr (sl_7 hw) own_nin0)) K12 (own_nr (sl_8 hw) own_nin0)) K17 (own_nr (sl_9 hw) own_nin0))
  have F21 := (own_E F16 K17)
  refine own_putF Y19 hx (pc' := 51) hZ hown (Or.inr (own_w hw 74 rfl)) Via.refl F20 F21 (Or.inl (own_w hw 75 rfl)) (own_w hw 2 rfl) (ty := (.object zs0)) (by decide) rfl rfl (Nat.le_trans Z0 le2) (hb hby d7_48) rfl (fun T22 h22 Y22 K22 F22 => ?_)
  refine own_aloadN Y22 hx (pc' := 52) (hb hby d7_51) rfl rfl rfl ?_
  refine own_aconstNull Y22 hx (pc' := 53) (hb hby d7_52) rfl ?_
  have F23 := (own_F (v := .null) (own_F (v := .null) F13 K17 (own_nl D7 own_nin0)) K22 (own_nl D7 own_nin0))
  have F24 := (own_E (own_E (own_E (own_E (own_E P4 K2) K6) K12) K17) K22)
  refine own_putF Y22 hx (pc' := 56) hZ hown (Or.inr (own_w hw 70 rfl)) Via.refl F23 F24 (Or.inl (own_w hw 71 rfl)) (own_w hw 2 rfl) (ty := (.object zs0)) (by decide) rfl rfl P7 (hb hby d7_53) rfl (fun T25 h25 Y25 K25 F25 => ?_)
  refine own_aloadN Y25 hx (pc' := 57) (hb hby d7_56) rfl rfl rfl ?_
  refine own_aconstNull Y25 hx (pc' := 58) (hb hby d7_57) rfl ?_
  have F26 := (own_F (v := .null) (own_F (v := .null) F18 K22 (own_nl D7 own_nin0)) K25 (own_nr (sl_10 hw) own_nin0))
  have F27 := (own_E F24 K25)
  refine own_putF Y25 hx (pc' := 61) hZ hown (Or.inr (own_w hw 72 rfl)) Via.refl F26 F27 (Or.inl (own_w hw 73 rfl)) (own_w hw 2 rfl) (ty := (.object zs0)) (by decide) rfl rfl P7 (hb hby d7_58) rfl (fun T28 h28 Y28 K28 F28 => ?_)
  refine own_aloadN Y28 hx (pc' := 62) (hb hby d7_61) rfl rfl rfl ?_
  refine own_iconst Y28 hx (pc' := 63) (x := (1 : Int32)) (hb hby d7_62) rfl (by decide) ?_
  have F30 := (own_E F27 K28)
  have F31 := (own_F (v := .null) (own_F (v := .null) (own_F (v := .null) (own_F (v := .null) (own_F (v := .null) (own_F (v := .null) (own_F (v := .null) P8 K2 own_nin0) K6 (own_nl D7 own_nin0)) K12 (own_nl D7 own_nin0)) K17 (own_nl D7 own_nin0)) K22 (own_nl D7 own_nin0)) K25 (own_nr (sl_11 hw) own_nin0)) K28 (own_nr (sl_12 hw) own_nin0))
  have F32 := (own_St (own_St (own_St (own_St (own_St (own_St (own_St P9 K2 own_all0) K6 (own_allS (own_plain E2) own_all0)) K12 (own_allS (own_plain F11) own_all0)) K17 (own_allS (own_plain F16) own_all0)) K22 (own_allS (own_plain F21) own_all0)) K25 (own_allS (own_plain F24) own_all0)) K28 (own_allS (own_plain F27) own_all0))
  refine own_virtual Y28 hx (pc' := 66) (W := 0) (cl' := 1) (sl' := 11) (as' := [(.int (1 : Int32))]) (S' := []) (a := a3) hZ hown (own_w hw 76 rfl) (own_w hw 77 rfl) (notFace_of_selects (args := #[]) (mvT hZ (own_w hw 79 rfl))) (own_w hw 79 rfl) (own_w hw 78 rfl) (own_w hw 3 rfl) (own_w hw 80 rfl) (by decide) F30 (rm9_7 l Z a0 hw [] a3 a4 h28 n0 (own_sz Y28) F31 F32) (hb hby d7_63) rfl (by rw [hml]; rfl) rfl (lenOf pd__I_Ljava_lang_Object_ rfl) rfl (by decide) (by decide) rfl rfl (by decide) (by decide) own_Same.sz (own_fixS (S2 := [.null]) rfl (fun T29 Y29 => ?_))
  refine own_astore Y29 hx (pc' := 68) (Ls' := #[.val (.ref a1), .val (.ref a2), .val (.int (2 : Int32)), .val (.ref a3), .val (.ref b2), .val .null, .unset]) (hb hby d7_66) rfl rfl rfl ?_
  refine own_aloadN Y29 hx (pc' := 69) (hb hby d7_68) rfl rfl rfl ?_
  refine own_iconst Y29 hx (pc' := 70) (x := (1 : Int32)) (hb hby d7_69) rfl (by decide) ?_
  have F34 := (own_F (v := .null) (own_F (v := .null) (own_F (v := .null) (own_F (v := .null) (own_F (v := .null) (own_F (v := .null) (own_F (v := .null) P10 K2 own_nin0) K6 (own_nl D7 own_nin0)) K12 (own_nl D7 own_nin0)) K17 (own_nl D7 own_nin0)) K22 (own_nl D7 own_nin0)) K25 (own_nr (sl_13 hw) own_nin0)) K28 (own_nr (sl_14 hw) own_nin0))
  refine own_virtual Y29 hx (pc' := 73) (W := 0) (cl' := 1) (sl' := 11) (as' := [(.int (1 : Int32))]) (S' := []) (a := a3) hZ hown (own_w hw 88 rfl) (own_w hw 89 rfl) (notFace_of_selects (args := #[]) (mvT hZ (own_w hw 91 rfl))) (own_w hw 91 rfl) (own_w hw 90 rfl) (own_w hw 3 rfl) (own_w hw 92 rfl) (by decide) F30 (rm11_8 l Z a0 hw [] a3 h28 n0 (own_sz Y29) F34) (hb hby d7_70) rfl (by rw [hml]; rfl) rfl (lenOf pd__I_Ljava_lang_Object_ rfl) rfl (by decide) (by decide) rfl rfl (by decide) (by decide) own_Same.sz (own_fixS (S2 := [.null]) rfl (fun T33 Y33 => ?_))
  refine own_astore Y33 hx (pc' := 75) (Ls' := #[.val (.ref a1), .val (.ref a2), .val (.int (2 : Int32)), .val (.ref a3), .val (.ref b2), .val .null, .val .null]) (hb hby d7_73) rfl rfl rfl ?_
  refine own_aloadN Y33 hx (pc' := 76) (hb hby d7_75) rfl rfl rfl ?_
  refine own_aconstNull Y33 hx (pc' := 77) (hb hby d7_76) rfl ?_
  refine own_putF Y33 hx (pc' := 80) hZ hown (Or.inr (own_w hw 95 rfl)) Via.refl F31 F30 (Or.inl (own_w hw 82 rfl)) (own_w hw 2 rfl) (ty := (.object zs2)) (by decide) rfl rfl P7 (hb hby d7_77) rfl (fun T35 h35 Y35 K35 F35 => ?_)
  refine own_aloadN Y35 hx (pc' := 81) (hb hby d7_80) rfl rfl rfl ?_
  refine own_aconstNull Y35 hx (pc' := 82) (hb hby d7_81) rfl ?_
  have F36 := (own_F (v := .null) (own_F (v := .null) (own_F (v := .null) (own_F (v := .null) (own_F (v := .null) (own_F (v := .null) (own_F (v := .null) F4 K6 (own_nl D7 own_nin0)) K12 (own_nl D7 own_nin0)) K17 (own_nl D7 own_nin0)) K22 (own_nl D7 own_nin0)) K25 (own_nr (sl_15 hw) own_nin0)) K28 (own_nr (sl_16 hw) own_nin0)) K35 (own_nr (sl_17 hw) own_nin0))
  have F37 := (own_E F30 K35)
  refine own_putF Y35 hx (pc' := 85) hZ hown (Or.inr (own_w hw 62 rfl)) Via.refl F36 F37 (Or.inl (own_w hw 63 rfl)) (own_w hw 2 rfl) (ty := (.object zs2)) (by decide) rfl rfl P7 (hb hby d7_82) rfl (fun T38 h38 Y38 K38 F38 => ?_)
  refine own_aloadN Y38 hx (pc' := 86) (hb hby d7_85) rfl rfl rfl ?_
  refine own_aconstNull Y38 hx (pc' := 87) (hb hby d7_86) rfl ?_
  have F39 := (own_F (v := .null) (own_F (v := .null) F34 K35 (own_nr (sl_18 hw) own_nin0)) K38 (own_nr (sl_19 hw) own_nin0))
  have F40 := (own_E F37 K38)
  refine own_putF Y38 hx (pc' := 90) hZ hown (Or.inr (own_w hw 96 rfl)) Via.refl F39 F40 (Or.inl (own_w hw 94 rfl)) (own_w hw 2 rfl) (ty := (.object zs2)) (by decide) rfl rfl P7 (hb hby d7_87) rfl (fun T41 h41 Y41 K41 F41 => ?_)
  refine own_aloadN Y41 hx (pc' := 91) (hb hby d7_90) rfl rfl rfl ?_
  refine own_aconstNull Y41 hx (pc' := 92) (hb hby d7_91) rfl ?_
  have F42 := (own_F (v := .null) (own_F (v := .null) (own_F (v := .null) (own_F (v := .null) (own_F (v := .null) (own_F (v := .null) (own_F (v := .null) (own_F (v := .null) F8 K12 (own_nl D7 own_nin0)) K17 (own_nl D7 own_nin0)) K22 (own_nl D7 own_nin0)) K25 (own_nr (sl_20 hw) own_nin0)) K28 (own_nr (sl_21 hw) own_nin0)) K35 (own_nr (sl_22 hw) own_nin0)) K38 (own_nr (sl_23 hw) own_nin0)) K41 (own_nr (sl_24 hw) own_nin0))
  have F43 := (own_E F40 K41)
  refine own_putF Y41 hx (pc' := 95) hZ hown (Or.inr (own_w hw 66 rfl)) Via.refl F42 F43 (Or.inl (own_w hw 67 rfl)) (own_w hw 2 rfl) (ty := (.object zs2)) (by decide) rfl rfl P7 (hb hby d7_92) rfl (fun T44 h44 Y44 K44 F44 => ?_)
  refine own_aloadN Y44 hx (pc' := 96) (hb hby d7_95) rfl rfl rfl ?_
  refine own_iloadN Y44 hx (pc' := 97) (hb hby d7_96) rfl rfl ?_
  refine own_aload Y44 hx (pc' := 99) (hb hby d7_97) rfl rfl rfl ?_
  refine own_aload Y44 hx (pc' := 101) (hb hby d7_99) rfl rfl rfl ?_
  refine own_iloadN Y44 hx (pc' := 102) (hb hby d7_101) rfl rfl ?_
  refine own_iconst Y44 hx (pc' := 103) (x := (1 : Int32)) (hb hby d7_102) rfl (by decide) ?_
  refine own_iadd Y44 hx (pc' := 104) (hb hby d7_103) rfl (z := (3 : Int32)) (by decide) ?_
  refine own_aload Y44 hx (pc' := 106) (hb hby d7_104) rfl rfl rfl ?_
  have F46 := (own_E (own_E (own_E (own_E (own_E (own_E (own_E (own_E (own_E (own_E (own_E P0 K2) K6) K12) K17) K22) K25) K28) K35) K38) K41) K44)
  have F47 := (own_St (own_St (own_St (own_St F32 K35 (own_allS (own_plain F30) own_all0)) K38 (own_allS (own_plain F37) own_all0)) K41 (own_allS (own_plain F40) own_all0)) K44 (own_allS (own_plain F43) own_all0))
  have D48 : a2 ≠ b2 := (Nat.ne_of_lt (Nat.lt_of_lt_of_le P0.lt le2))
  have F49 := (own_F (v := .null) (own_F (v := .null) (own_F (v := .null) (own_F (v := .null) (own_F (v := .null) (own_F (v := .null) (own_F (v := .null) (own_F (v := .null) (own_F (v := .null) (own_F (v := .null) (own_F (v := .null) P11 K2 own_nin0) K6 (own_nl D48 own_nin0)) K12 (own_nl D48 own_nin0)) K17 (own_nl D48 own_nin0)) K22 (own_nl D48 own_nin0)) K25 (own_nl P12 own_nin0)) K28 (own_nl P12 own_nin0)) K35 (own_nl P12 own_nin0)) K38 (own_nl P12 own_nin0)) K41 (own_nl P12 own_nin0)) K44 (own_nl P12 own_nin0))
  have F50 := (own_F (v := .null) (own_F (v := .null) (own_F (v := .null) (own_F (v := .null) (own_F (v := .null) (own_F (v := .null) (own_F (v := .null) (own_F (v := .null) (own_F (v := .null) (own_F (v := .null) (own_F (v := .null) P14 K2 own_nin0) K6 (own_nl D48 own_nin0)) K12 (own_nl D48 own_nin0)) K17 (own_nl D48 own_nin0)) K22 (own_nl D48 own_nin0)) K25 (own_nl P12 own_nin0)) K28 (own_nl P12 own_nin0)) K35 (own_nl P12 own_nin0)) K38 (own_nl P12 own_nin0)) K41 (own_nl P12 own_nin0)) K44 (own_nl P12 own_nin0))
  have F51 := (own_F (v := (.ref a5)) (own_F (v := (.ref a5)) (own_F (v := (.ref a5)) (own_F (v := (.ref a5)) (own_F (v := (.ref a5)) (own_F (v := (.ref a5)) (own_F (v := (.ref a5)) (own_F (v := (.ref a5)) (own_F (v := (.ref a5)) (own_F (v := (.ref a5)) (own_F (v := (.ref a5)) P15 K2 own_nin0) K6 (own_nl D48 own_nin0)) K12 (own_nl D48 own_nin0)) K17 (own_nl D48 own_nin0)) K22 (own_nl D48 own_nin0)) K25 (own_nl P12 own_nin0)) K28 (own_nl P12 own_nin0)) K35 (own_nl P12 own_nin0)) K38 (own_nl P12 own_nin0)) K41 (own_nl P12 own_nin0)) K44 (own_nl P12 own_nin0))
  have F52 := (own_F (v := .null) (own_F (v := .null) (own_F (v := .null) (own_F (v := .null) (own_F (v := .null) (own_F (v := .null) (own_F (v := .null) (own_F (v := .null) (own_F (v := .null) (own_F (v := .null) (own_F (v := .null) P16 K2 own_nin0) K6 (own_nl D48 own_nin0)) K12 (own_nl D48 own_nin0)) K17 (own_nl D48 own_nin0)) K22 (own_nl D48 own_nin0)) K25 (own_nl P12 own_nin0)) K28 (own_nl P12 own_nin0)) K35 (own_nl P12 own_nin0)) K38 (own_nl P12 own_nin0)) K41 (own_nl P12 own_nin0)) K44 (own_nl P12 own_nin0))
  refine own_virtual Y44 hx (pc' := 109) (W := 0) (cl' := 1) (sl' := 11) (as' := [(.int (2 : Int32)), .null, .null, (.int (3 : Int32)), (.ref b2)]) (S' := []) (a := a2) hZ hown (own_w hw 97 rfl) (own_w hw 98 rfl) (notFace_of_selects (args := #[]) (mvT hZ (own_w hw 100 rfl))) (own_w hw 100 rfl) (own_w hw 99 rfl) (own_w hw 3 rfl) (own_w hw 101 rfl) (by decide) F46 (rm12_48 l Z a0 hw [] a2 b2 a4 a5 h44 n0 (own_sz Y44) F46 F47 F49 P13 F50 F51 F52) (hb hby d7_106) rfl (by rw [hml]; rfl) rfl (lenOf pd__ILjava_lang_Object_Ljava_lang_Object_ILcom_example_napkintree_napkintree_balancing_MultiwayTree_Node__V rfl) rfl (by decide) (by decide) rfl rfl (by decide) (by decide) P12_48_sz (own_fixR (S2 := []) rfl (fun T45 h45 Y45 R45 => ?_))
  obtain ⟨K45, G45_0, G45_1, G45_2⟩ := R45
  refine own_aloadN Y45 hx (pc' := 110) (hb hby d7_109) rfl rfl rfl ?_
  refine own_aloadN Y45 hx (pc' := 111) (hb hby d7_110) rfl rfl rfl ?_
  have F53 := (own_St (own_St (own_St (own_St (own_St (own_St (own_St (own_St (own_St (own_St (own_St (own_St P17 K2 own_all0) K6 (own_allS (own_plain E2) own_all0)) K12 (own_allS (own_plain F11) own_all0)) K17 (own_allS (own_plain F16) own_all0)) K22 (own_allS (own_plain F21) own_all0)) K25 (own_allS (own_plain F24) own_all0)) K28 (own_allS (own_plain F27) own_all0)) K35 (own_allS (own_plain F30) own_all0)) K38 (own_allS (own_plain F37) own_all0)) K41 (own_allS (own_plain F40) own_all0)) K44 (own_allS (own_plain F43) own_all0)) K45 (own_allS (own_plain F46) (own_allS (own_plain F46) (own_allS (own_plain F46) own_all0))))
  refine own_getS Y45 hx (pc' := 114) (v := (.ref a6)) hZ hown (host := "") (Or.inl (own_w hw 126 rfl)) Via.refl F53 (hb hby d7_111) rfl (fun T54 Y54 => ?_)
  have F56 := (own_E (own_E (own_E (own_E (own_E (own_E (own_E (own_E (own_E (own_E (own_E (own_E P18 K2) K6) K12) K17) K22) K25) K28) K35) K38) K41) K44) K45)
  have D57 : a1 ≠ b2 := (Nat.ne_of_lt (Nat.lt_of_lt_of_le P18.lt le2))
  have F58 := (own_E (own_E (own_E (own_E (own_E P18 K2) K6) K12) K17) K22)
  have D59 : a1 ≠ a3 := (ne_exa F58 F24 (by decide))
  have F60 := (own_E (own_E (own_E (own_E (own_E (own_E F58 K25) K28) K35) K38) K41) K44)
  have D61 : a1 ≠ a2 := (ne_exa F60 F46 (by decide))
  have F62 := (own_F (v := (.int (0 : Int32))) (own_F (v := (.int (0 : Int32))) (own_F (v := (.int (0 : Int32))) (own_F (v := (.int (0 : Int32))) (own_F (v := (.int (0 : Int32))) (own_F (v := (.int (0 : Int32))) (own_F (v := (.int (0 : Int32))) (own_F (v := (.int (0 : Int32))) (own_F (v := (.int (0 : Int32))) (own_F (v := (.int (0 : Int32))) (own_F (v := (.int (0 : Int32))) (own_F (v := (.int (0 : Int32))) P19 K2 own_nin0) K6 (own_nl D57 own_nin0)) K12 (own_nl D57 own_nin0)) K17 (own_nl D57 own_nin0)) K22 (own_nl D57 own_nin0)) K25 (own_nl D59 own_nin0)) K28 (own_nl D59 own_nin0)) K35 (own_nl D59 own_nin0)) K38 (own_nl D59 own_nin0)) K41 (own_nl D59 own_nin0)) K44 (own_nl D59 own_nin0)) K45 (own_nl D61 (own_nl D61 (own_nl D61 own_nin0))))
  have F63 := (own_St (own_St (own_St (own_St (own_St (own_St (own_St (own_St (own_St (own_St (own_St (own_St P20 K2 own_all0) K6 (own_allS (own_plain E2) own_all0)) K12 (own_allS (own_plain F11) own_all0)) K17 (own_allS (own_plain F16) own_all0)) K22 (own_allS (own_plain F21) own_all0)) K25 (own_allS (own_plain F24) own_all0)) K28 (own_allS (own_plain F27) own_all0)) K35 (own_allS (own_plain F30) own_all0)) K38 (own_allS (own_plain F37) own_all0)) K41 (own_allS (own_plain F40) own_all0)) K44 (own_allS (own_plain F43) own_all0)) K45 (own_allS (own_plain F46) (own_allS (own_plain F46) (own_allS (own_plain F46) own_all0))))
  have F64 := (own_E (own_E (own_E (own_E (own_E (own_E (own_E (own_E (own_E (own_E (own_E (own_E P21 K2) K6) K12) K17) K22) K25) K28) K35) K38) K41) K44) K45)
  have D65 : a6 ≠ b2 := (Nat.ne_of_lt (Nat.lt_of_lt_of_le P21.lt le2))
  have F66 := (own_E (own_E (own_E (own_E (own_E P21 K2) K6) K12) K17) K22)
  have D67 : a6 ≠ a3 := (ne_exa F66 F24 (by decide))
  have F68 := (own_E (own_E (own_E (own_E (own_E (own_E F66 K25) K28) K35) K38) K41) K44)
  have D69 : a6 ≠ a2 := (ne_exa F68 F46 (by decide))
  have F70 := (own_F (v := (.int (1 : Int32))) (own_F (v := (.int (1 : Int32))) (own_F (v := (.int (1 : Int32))) (own_F (v := (.int (1 : Int32))) (own_F (v := (.int (1 : Int32))) (own_F (v := (.int (1 : Int32))) (own_F (v := (.int (1 : Int32))) (own_F (v := (.int (1 : Int32))) (own_F (v := (.int (1 : Int32))) (own_F (v := (.int (1 : Int32))) (own_F (v := (.int (1 : Int32))) (own_F (v := (.int (1 : Int32))) P22 K2 own_nin0) K6 (own_nl D65 own_nin0)) K12 (own_nl D65 own_nin0)) K17 (own_nl D65 own_nin0)) K22 (own_nl D65 own_nin0)) K25 (own_nl D67 own_nin0)) K28 (own_nl D67 own_nin0)) K35 (own_nl D67 own_nin0)) K38 (own_nl D67 own_nin0)) K41 (own_nl D67 own_nin0)) K44 (own_nl D67 own_nin0)) K45 (own_nl D69 (own_nl D69 (own_nl D69 own_nin0))))
  have F71 := (own_F (v := (.int (2 : Int32))) (own_F (v := (.int (2 : Int32))) (own_F (v := (.int (2 : Int32))) (own_F (v := (.int (2 : Int32))) (own_F (v := (.int (2 : Int32))) (own_F (v := (.int (2 : Int32))) (own_F (v := (.int (2 : Int32))) (own_F (v := (.int (2 : Int32))) (own_F (v := (.int (2 : Int32))) (own_F (v := (.int (2 : Int32))) (own_F (v := (.int (2 : Int32))) (own_F (v := (.int (2 : Int32))) P23 K2 own_nin0) K6 (own_nl D7 own_nin0)) K12 (own_nl D7 own_nin0)) K17 (own_nl D7 own_nin0)) K22 (own_nl D7 own_nin0)) K25 (own_nr (sl_94 hw) own_nin0)) K28 (own_nr (sl_95 hw) own_nin0)) K35 (own_nr (sl_96 hw) own_nin0)) K38 (own_nr (sl_97 hw) own_nin0)) K41 (own_nr (sl_98 hw) own_nin0)) K44 (own_nr (sl_99 hw) own_nin0)) K45 (own_nl (Ne.symm P12) (own_nl (Ne.symm P12) (own_nl (Ne.symm P12) own_nin0))))
  have F72 := (own_E (own_E F43 K44) K45)
  refine own_private Y54 hx (pc' := 117) (W := 0) (cl' := 1) (sl' := 11) (as' := [(.ref a3), (.ref a6)]) (S' := []) (a := a1) hZ hown (own_w hw 129 rfl) (own_w hw 130 rfl) (own_selP hZ (Cond.sameMethod_class (own_w hw 134 rfl)) (own_w hw 131 rfl) (own_w hw 130 rfl) (by decide)) (own_w hw 131 rfl) (own_w hw 19 rfl) (own_w hw 132 rfl) (by decide) F56 (rm17_26 l Z a0 hw [] a1 a3 a6 h45 n0 (own_sz Y54) F56 F62 F63 F64 F70 F71 F72 P7) (hb hby d7_114) rfl (by rw [hml]; rfl) rfl (lenOf pd__Lcom_example_napkintree_napkintree_balancing_MultiwayTree_Node_Lcom_example_napkintree_napkintree_balancing_NodeMark__V rfl) rfl (by decide) (by decide) rfl rfl (by decide) (by decide) P17_26_sz (own_fixR (S2 := []) rfl (fun T55 h55 Y55 R55 => ?_))
  obtain ⟨K55, G55_0⟩ := R55
  refine own_aloadN Y55 hx (pc' := 118) (hb hby d7_117) rfl rfl rfl ?_
  refine own_aload Y55 hx (pc' := 120) (hb hby d7_118) rfl rfl rfl ?_
  have F73 := (own_St F53 K55 (own_allS (own_plain F72) own_all0))
  refine own_getS Y55 hx (pc' := 123) (v := (.ref a6)) hZ hown (host := "") (Or.inl (own_w hw 126 rfl)) Via.refl F73 (hb hby d7_120) rfl (fun T74 Y74 => ?_)
  have F76 := (own_E F56 K55)
  have F77 := (own_F (v := (.int (0 : Int32))) F62 K55 (own_nl D59 own_nin0))
  have F78 := (own_St F63 K55 (own_allS (own_plain F72) own_all0))
  have F79 := (own_E F64 K55)
  have F80 := (own_F (v := (.int (1 : Int32))) F70 K55 (own_nl D67 own_nin0))
  have F81 := (own_F (v := (.int (0 : Int32))) (own_F (v := (.int (0 : Int32))) (own_F (v := (.int (0 : Int32))) (own_F (v := (.int (0 : Int32))) (own_F (v := (.int (0 : Int32))) (own_F (v := (.int (0 : Int32))) (own_F (v := (.int (0 : Int32))) (own_F (v := (.int (0 : Int32))) (own_F (v := (.int (0 : Int32))) (own_F (v := (.int (0 : Int32))) (own_F (v := (.int (0 : Int32))) (own_F (v := (.int (0 : Int32))) (D2 (Or.inl (own_w hw 153 rfl)) (ty := .int) (by decide)) K6 (own_nr (sl_100 hw) own_nin0)) K12 (own_nr (sl_101 hw) own_nin0)) K17 (own_nr (sl_102 hw) own_nin0)) K22 (own_nr (sl_103 hw) own_nin0)) K25 (own_nl (Ne.symm D7) own_nin0)) K28 (own_nl (Ne.symm D7) own_nin0)) K35 (own_nl (Ne.symm D7) own_nin0)) K38 (own_nl (Ne.symm D7) own_nin0)) K41 (own_nl (Ne.symm D7) own_nin0)) K44 (own_nl (Ne.symm D7) own_nin0)) K45 (own_nl (Ne.symm D48) (own_nl (Ne.symm D48) (own_nl (Ne.symm D48) own_nin0)))) K55 (own_nl (Ne.symm D7) own_nin0))
  have F82 := (own_E (own_E (own_E (own_E (own_E (own_E (own_E (own_E (own_E F21 K22) K25) K28) K35) K38) K41) K44) K45) K55)
  refine own_private Y74 hx (pc' := 126) (W := 0) (cl' := 1) (sl' := 11) (as' := [(.ref b2), (.ref a6)]) (S' := []) (a := a1) hZ hown (own_w hw 129 rfl) (own_w hw 130 rfl) (own_selP hZ (Cond.sameMethod_class (own_w hw 134 rfl)) (own_w hw 131 rfl) (own_w hw 130 rfl) (by decide)) (own_w hw 131 rfl) (own_w hw 19 rfl) (own_w hw 132 rfl) (by decide) F76 (rm17_16 l Z a0 hw [] a1 b2 a6 h55 n0 (own_sz Y74) F76 F77 F78 F79 F80 F81 F82 (Nat.le_trans Z0 le2)) (hb hby d7_123) rfl (by rw [hml]; rfl) rfl (lenOf pd__Lcom_example_napkintree_napkintree_balancing_MultiwayTree_Node_Lcom_example_napkintree_napkintree_balancing_NodeMark__V rfl) rfl (by decide) (by decide) rfl rfl (by decide) (by decide) P17_16_sz (own_fixR (S2 := []) rfl (fun T75 h75 Y75 R75 => ?_))
  obtain ⟨K75, G75_0⟩ := R75
  refine own_aloadN Y75 hx (pc' := 127) (hb hby d7_126) rfl rfl rfl ?_
  refine own_aloadN Y75 hx (pc' := 128) (hb hby d7_127) rfl rfl rfl ?_
  have F83 := (own_St (own_St (own_St (own_St (own_St (own_St (own_St (own_St (own_St (own_St (own_St (own_St (own_St (own_St P24 K2 own_all0) K6 (own_allS (own_plain E2) own_all0)) K12 (own_allS (own_plain F11) own_all0)) K17 (own_allS (own_plain F16) own_all0)) K22 (own_allS (own_plain F21) own_all0)) K25 (own_allS (own_plain F24) own_all0)) K28 (own_allS (own_plain F27) own_all0)) K35 (own_allS (own_plain F30) own_all0)) K38 (own_allS (own_plain F37) own_all0)) K41 (own_allS (own_plain F40) own_all0)) K44 (own_allS (own_plain F43) own_all0)) K45 (own_allS (own_plain F46) (own_allS (own_plain F46) (own_allS (own_plain F46) own_all0)))) K55 (own_allS (own_plain F72) own_all0)) K75 (own_allS (own_plain F82) own_all0))
  refine own_getS Y75 hx (pc' := 131) (v := (.ref a7)) hZ hown (host := "") (Or.inl (own_w hw 154 rfl)) Via.refl F83 (hb hby d7_128) rfl (fun T84 Y84 => ?_)
  have F86 := (own_E F76 K75)
  have F87 := (own_F (v := (.int (0 : Int32))) F77 K75 (own_nl D57 own_nin0))
  have F88 := (own_St F78 K75 (own_allS (own_plain F82) own_all0))
  have F89 := (own_E (own_E (own_E (own_E (own_E (own_E (own_E (own_E (own_E (own_E (own_E (own_E (own_E (own_E P25 K2) K6) K12) K17) K22) K25) K28) K35) K38) K41) K44) K45) K55) K75)
  have D90 : a7 ≠ b2 := (Nat.ne_of_lt (Nat.lt_of_lt_of_le P25.lt le2))
  have F91 := (own_E (own_E (own_E (own_E (own_E P25 K2) K6) K12) K17) K22)
  have D92 : a7 ≠ a3 := (ne_exa F91 F24 (by decide))
  have F93 := (own_E (own_E (own_E (own_E (own_E (own_E F91 K25) K28) K35) K38) K41) K44)
  have D94 : a7 ≠ a2 := (ne_exa F93 F46 (by decide))
  have F95 := (own_F (v := (.int (0 : Int32))) (own_F (v := (.int (0 : Int32))) (own_F (v := (.int (0 : Int32))) (own_F (v := (.int (0 : Int32))) (own_F (v := (.int (0 : Int32))) (own_F (v := (.int (0 : Int32))) (own_F (v := (.int (0 : Int32))) (own_F (v := (.int (0 : Int32))) (own_F (v := (.int (0 : Int32))) (own_F (v := (.int (0 : Int32))) (own_F (v := (.int (0 : Int32))) (own_F (v := (.int (0 : Int32))) (own_F (v := (.int (0 : Int32))) (own_F (v := (.int (0 : Int32))) P26 K2 own_nin0) K6 (own_nl D90 own_nin0)) K12 (own_nl D90 own_nin0)) K17 (own_nl D90 own_nin0)) K22 (own_nl D90 own_nin0)) K25 (own_nl D92 own_nin0)) K28 (own_nl D92 own_nin0)) K35 (own_nl D92 own_nin0)) K38 (own_nl D92 own_nin0)) K41 (own_nl D92 own_nin0)) K44 (own_nl D92 own_nin0)) K45 (own_nl D94 (own_nl D94 (own_nl D94 own_nin0)))) K55 (own_nl D92 own_nin0)) K75 (own_nl D90 own_nin0))
  have F96 := (own_F (v := (.int (1 : Int32))) (own_F (v := (.int (1 : Int32))) (own_F (v := (.int (1 : Int32))) (own_F (v := (.int (1 : Int32))) (own_F (v := (.int (1 : Int32))) (own_F (v := (.int (1 : Int32))) (own_F (v := (.int (1 : Int32))) (own_F (v := (.int (1 : Int32))) (own_F (v := (.int (1 : Int32))) (own_F (v := (.int (1 : Int32))) (own_F (v := (.int (1 : Int32))) (own_F (v := (.int (1 : Int32))) (own_F (v := (.int (1 : Int32))) (own_F (v := (.int (1 : Int32))) P27 K2 own_nin0) K6 (own_nl D48 own_nin0)) K12 (own_nl D48 own_nin0)) K17 (own_nl D48 own_nin0)) K22 (own_nl D48 own_nin0)) K25 (own_nl P12 own_nin0)) K28 (own_nl P12 own_nin0)) K35 (own_nl P12 own_nin0)) K38 (own_nl P12 own_nin0)) K41 (own_nl P12 own_nin0)) K44 (own_nl P12 own_nin0)) K45 (own_nr (sl_97 hw) (own_nr (sl_99 hw) (own_nr (sl_95 hw) own_nin0)))) K55 (own_nl P12 own_nin0)) K75 (own_nl D48 own_nin0))
  have F97 := (own_E (own_E (own_E F46 K45) K55) K75)
  refine own_private Y84 hx (pc' := 134) (W := 0) (cl' := 1) (sl' := 11) (as' := [(.ref a2), (.ref a7)]) (S' := []) (a := a1) hZ hown (own_w hw 129 rfl) (own_w hw 130 rfl) (own_selP hZ (Cond.sameMethod_class (own_w hw 134 rfl)) (own_w hw 131 rfl) (own_w hw 130 rfl) (by decide)) (own_w hw 131 rfl) (own_w hw 19 rfl) (own_w hw 132 rfl) (by decide) F86 (rm17_32 l Z a0 hw [] a1 a2 a7 h75 n0 (own_sz Y84) F86 F87 F88 F89 F95 F96 F97 P13) (hb hby d7_131) rfl (by rw [hml]; rfl) rfl (lenOf pd__Lcom_example_napkintree_napkintree_balancing_MultiwayTree_Node_Lcom_example_napkintree_napkintree_balancing_NodeMark__V rfl) rfl (by decide) (by decide) rfl rfl (by decide) (by decide) P17_32_sz (own_fixR (S2 := []) rfl (fun T85 h85 Y85 R85 => ?_))
  obtain ⟨K85, G85_0⟩ := R85
  have KC98 : own_Kp h0 h85 [(a3, Jvm.RoadKit.slotOf Z zs0 "child2" zs16), (a3, Jvm.RoadKit.slotOf Z zs0 "child3" zs16), (a3, Jvm.RoadKit.slotOf Z zs0 "key1" zs1), (a3, Jvm.RoadKit.slotOf Z zs0 "key2" zs1), (a3, Jvm.RoadKit.slotOf Z zs0 "value1" zs1), (a3, Jvm.RoadKit.slotOf Z zs0 "value2" zs1), (a2, Jvm.RoadKit.slotOf Z zs0 "key2" zs1), (a2, Jvm.RoadKit.slotOf Z zs0 "value2" zs1), (a2, Jvm.RoadKit.slotOf Z zs0 "child3" zs16), (a3, Jvm.RoadKit.slotOf Z zs0 "mark" "I"), (a2, Jvm.RoadKit.slotOf Z zs0 "mark" "I")] := ((((((((((((((((own_Kp.refl h0 [(a3, Jvm.RoadKit.slotOf Z zs0 "child2" zs16), (a3, Jvm.RoadKit.slotOf Z zs0 "child3" zs16), (a3, Jvm.RoadKit.slotOf Z zs0 "key1" zs1), (a3, Jvm.RoadKit.slotOf Z zs0 "key2" zs1), (a3, Jvm.RoadKit.slotOf Z zs0 "value1" zs1), (a3, Jvm.RoadKit.slotOf Z zs0 "value2" zs1), (a2, Jvm.RoadKit.slotOf Z zs0 "key2" zs1), (a2, Jvm.RoadKit.slotOf Z zs0 "value2" zs1), (a2, Jvm.RoadKit.slotOf Z zs0 "child3" zs16), (a3, Jvm.RoadKit.slotOf Z zs0 "mark" "I"), (a2, Jvm.RoadKit.slotOf Z zs0 "mark" "I")]).trans K2 own_all0).trans K6 (own_allS (Or.inr le2) own_all0)).trans K12 (own_allS (Or.inr le2) own_all0)).trans K17 (own_allS (Or.inr le2) own_all0)).trans K22 (own_allS (Or.inr le2) own_all0)).trans K25 (own_allS (Or.inl (List.mem_of_getElem? (i := 0) rfl)) own_all0)).trans K28 (own_allS (Or.inl (List.mem_of_getElem? (i := 1) rfl)) own_all0)).trans K35 (own_allS (Or.inl (List.mem_of_getElem? (i := 2) rfl)) own_all0)).trans K38 (own_allS (Or.inl (List.mem_of_getElem? (i := 3) rfl)) own_all0)).trans K41 (own_allS (Or.inl (List.mem_of_getElem? (i := 4) rfl)) own_all0)).trans K44 (own_allS (Or.inl (List.mem_of_getElem? (i := 5) rfl)) own_all0)).trans K45 (own_allS (Or.inl (List.mem_of_getElem? (i := 6) rfl)) (own_allS (Or.inl (List.mem_of_getElem? (i := 7) rfl)) (own_allS (Or.inl (List.mem_of_getElem? (i := 8) rfl)) own_all0)))).trans K55 (own_allS (Or.inl (List.mem_of_getElem? (i := 9) rfl)) own_all0)).trans K75 (own_allS (Or.inr le2) own_all0)).trans K85 (own_allS (Or.inl (List.mem_of_getElem? (i := 10) rfl)) own_all0))
  have F99 := (own_F (v := .null) (own_F (v := .null) (own_F (v := .null) (own_F (v := .null) (own_F (v := .null) (own_F (v := .null) (own_F (v := .null) (own_F (v := .null) (own_F (v := .null) F25 K28 (own_nr (sl_77 hw) own_nin0)) K35 (own_nr (sl_61 hw) own_nin0)) K38 (own_nr (sl_59 hw) own_nin0)) K41 (own_nr (sl_62 hw) own_nin0)) K44 (own_nr (sl_60 hw) own_nin0)) K45 (own_nl (Ne.symm P12) (own_nl (Ne.symm P12) (own_nl (Ne.symm P12) own_nin0)))) K55 (own_nr (sl_104 hw) own_nin0)) K75 (own_nl D7 own_nin0)) K85 (own_nl (Ne.symm P12) own_nin0))
  have F100 := (own_F (v := .null) (own_F (v := .null) (own_F (v := .null) (own_F (v := .null) (own_F (v := .null) (own_F (v := .null) (own_F (v := .null) (own_F (v := .null) F28 K35 (own_nr (sl_68 hw) own_nin0)) K38 (own_nr (sl_66 hw) own_nin0)) K41 (own_nr (sl_69 hw) own_nin0)) K44 (own_nr (sl_67 hw) own_nin0)) K45 (own_nl (Ne.symm P12) (own_nl (Ne.symm P12) (own_nl (Ne.symm P12) own_nin0)))) K55 (own_nr (sl_105 hw) own_nin0)) K75 (own_nl D7 own_nin0)) K85 (own_nl (Ne.symm P12) own_nin0))
  have F101 := (own_F (v := .null) (own_F (v := .null) (own_F (v := .null) (own_F (v := .null) (own_F (v := .null) (own_F (v := .null) (own_F (v := .null) F35 K38 (own_nr (sl_32 hw) own_nin0)) K41 (own_nr (sl_48 hw) own_nin0)) K44 (own_nr (sl_33 hw) own_nin0)) K45 (own_nl (Ne.symm P12) (own_nl (Ne.symm P12) (own_nl (Ne.symm P12) own_nin0)))) K55 (own_nr (sl_106 hw) own_nin0)) K75 (own_nl D7 own_nin0)) K85 (own_nl (Ne.symm P12) own_nin0))
  have F102 := (own_F (v := .null) (own_F (v := .null) (own_F (v := .null) (own_F (v := .null) (own_F (v := .null) (own_F (v := .null) F38 K41 (own_nr (sl_43 hw) own_nin0)) K44 (own_nr (sl_42 hw) own_nin0)) K45 (own_nl (Ne.symm P12) (own_nl (Ne.symm P12) (own_nl (Ne.symm P12) own_nin0)))) K55 (own_nr (sl_107 hw) own_nin0)) K75 (own_nl D7 own_nin0)) K85 (own_nl (Ne.symm P12) own_nin0))
  have F103 := (own_F (v := .null) (own_F (v := .null) (own_F (v := .null) (own_F (v := .null) (own_F (v := .null) F41 K44 (own_nr (sl_38 hw) own_nin0)) K45 (own_nl (Ne.symm P12) (own_nl (Ne.symm P12) (own_nl (Ne.symm P12) own_nin0)))) K55 (own_nr (sl_108 hw) own_nin0)) K75 (own_nl D7 own_nin0)) K85 (own_nl (Ne.symm P12) own_nin0))
  have F104 := (own_F (v := .null) (own_F (v := .null) (own_F (v := .null) (own_F (v := .null) F44 K45 (own_nl (Ne.symm P12) (own_nl (Ne.symm P12) (own_nl (Ne.symm P12) own_nin0)))) K55 (own_nr (sl_109 hw) own_nin0)) K75 (own_nl D7 own_nin0)) K85 (own_nl (Ne.symm P12) own_nin0))
  have F105 := (own_F (v := (.ref a4)) (own_F (v := (.ref a4)) (own_F (v := (.ref a4)) G45_0 K55 (own_nl P12 own_nin0)) K75 (own_nl D48 own_nin0)) K85 (own_nr (sl_107 hw) own_nin0))
  have F106 := (own_F (v := .null) (own_F (v := .null) (own_F (v := .null) G45_1 K55 (own_nl P12 own_nin0)) K75 (own_nl D48 own_nin0)) K85 (own_nr (sl_109 hw) own_nin0))
  have F107 := (own_F (v := (.ref b2)) (own_F (v := (.ref b2)) (own_F (v := (.ref b2)) G45_2 K55 (own_nl P12 own_nin0)) K75 (own_nl D48 own_nin0)) K85 (own_nr (sl_105 hw) own_nin0))
  have F108 := (own_F (v := (.int (2 : Int32))) (own_F (v := (.int (2 : Int32))) G55_0 K75 (own_nl D7 own_nin0)) K85 (own_nl (Ne.symm P12) own_nin0))
  have F109 := (own_E (own_E F82 K75) K85)
  have F110 := (own_F (v := .null) (own_F (v := .null) (own_F (v := .null) (own_F (v := .null) (own_F (v := .null) (own_F (v := .null) (own_F (v := .null) (own_F (v := .null) (own_F (v := .null) (own_F (v := .null) (own_F (v := .null) F17 K22 (own_nr (sl_113 hw) own_nin0)) K25 (own_nl (Ne.symm D7) own_nin0)) K28 (own_nl (Ne.symm D7) own_nin0)) K35 (own_nl (Ne.symm D7) own_nin0)) K38 (own_nl (Ne.symm D7) own_nin0)) K41 (own_nl (Ne.symm D7) own_nin0)) K44 (own_nl (Ne.symm D7) own_nin0)) K45 (own_nl (Ne.symm D48) (own_nl (Ne.symm D48) (own_nl (Ne.symm D48) own_nin0)))) K55 (own_nl (Ne.symm D7) own_nin0)) K75 (own_nr (sl_114 hw) own_nin0)) K85 (own_nl (Ne.symm D48) own_nin0))
  have F111 := (own_F (v := .null) (own_F (v := .null) (own_F (v := .null) (own_F (v := .null) (own_F (v := .null) (own_F (v := .null) (own_F (v := .null) (own_F (v := .null) (own_F (v := .null) (own_F (v := .null) (own_F (v := .null) (own_F (v := .null) (own_F (v := .null) (own_F (v := .null) (D2 (Or.inl (own_w hw 63 rfl)) (ty := (.object zs2)) (by decide)) K6 (own_nr (sl_44 hw) own_nin0)) K12 (own_nr (sl_45 hw) own_nin0)) K17 (own_nr (sl_26 hw) own_nin0)) K22 (own_nr (sl_81 hw) own_nin0)) K25 (own_nl (Ne.symm D7) own_nin0)) K28 (own_nl (Ne.symm D7) own_nin0)) K35 (own_nl (Ne.symm D7) own_nin0)) K38 (own_nl (Ne.symm D7) own_nin0)) K41 (own_nl (Ne.symm D7) own_nin0)) K44 (own_nl (Ne.symm D7) own_nin0)) K45 (own_nl (Ne.symm D48) (own_nl (Ne.symm D48) (own_nl (Ne.symm D48) own_nin0)))) K55 (own_nl (Ne.symm D7) own_nin0)) K75 (own_nr (sl_107 hw) own_nin0)) K85 (own_nl (Ne.symm D48) own_nin0))
  have F112 := (own_F (v := .null) (own_F (v := .null) (own_F (v := .null) (own_F (v := .null) (own_F (v := .null) (own_F (v := .null) (own_F (v := .null) (own_F (v := .null) (own_F (v := .null) (own_F (v := .null) (own_F (v := .null) (own_F (v := .null) (own_F (v := .null) F6 K12 (own_nr (sl_53 hw) own_nin0)) K17 (own_nr (sl_29 hw) own_nin0)) K22 (own_nr (sl_87 hw) own_nin0)) K25 (own_nl (Ne.symm D7) own_nin0)) K28 (own_nl (Ne.symm D7) own_nin0)) K35 (own_nl (Ne.symm D7) own_nin0)) K38 (own_nl (Ne.symm D7) own_nin0)) K41 (own_nl (Ne.symm D7) own_nin0)) K44 (own_nl (Ne.symm D7) own_nin0)) K45 (own_nl (Ne.symm D48) (own_nl (Ne.symm D48) (own_nl (Ne.symm D48) own_nin0)))) K55 (own_nl (Ne.symm D7) own_nin0)) K75 (own_nr (sl_110 hw) own_nin0)) K85 (own_nl (Ne.symm D48) own_nin0))
  have F113 := (own_F (v := .null) (own_F (v := .null) (own_F (v := .null) (own_F (v := .null) (own_F (v := .null) (own_F (v := .null) (own_F (v := .null) (own_F (v := .null) (own_F (v := .null) (own_F (v := .null) (own_F (v := .null) (own_F (v := .null) (own_F (v := .null) (own_F (v := .null) (D2 (Or.inl (own_w hw 67 rfl)) (ty := (.object zs2)) (by decide)) K6 (own_nr (sl_46 hw) own_nin0)) K12 (own_nr (sl_47 hw) own_nin0)) K17 (own_nr (sl_28 hw) own_nin0)) K22 (own_nr (sl_82 hw) own_nin0)) K25 (own_nl (Ne.symm D7) own_nin0)) K28 (own_nl (Ne.symm D7) own_nin0)) K35 (own_nl (Ne.symm D7) own_nin0)) K38 (own_nl (Ne.symm D7) own_nin0)) K41 (own_nl (Ne.symm D7) own_nin0)) K44 (own_nl (Ne.symm D7) own_nin0)) K45 (own_nl (Ne.symm D48) (own_nl (Ne.symm D48) (own_nl (Ne.symm D48) own_nin0)))) K55 (own_nl (Ne.symm D7) own_nin0)) K75 (own_nr (sl_109 hw) own_nin0)) K85 (own_nl (Ne.symm D48) own_nin0))
  have F114 := (own_F (v := .null) (own_F (v := .null) (own_F (v := .null) (own_F (v := .null) (own_F (v := .null) (own_F (v := .null) (own_F (v := .null) (own_F (v := .null) (own_F (v := .null) (own_F (v := .null) (own_F (v := .null) (own_F (v := .null) F12 K17 (own_nr (sl_34 hw) own_nin0)) K22 (own_nr (sl_90 hw) own_nin0)) K25 (own_nl (Ne.symm D7) own_nin0)) K28 (own_nl (Ne.symm D7) own_nin0)) K35 (own_nl (Ne.symm D7) own_nin0)) K38 (own_nl (Ne.symm D7) own_nin0)) K41 (own_nl (Ne.symm D7) own_nin0)) K44 (own_nl (Ne.symm D7) own_nin0)) K45 (own_nl (Ne.symm D48) (own_nl (Ne.symm D48) (own_nl (Ne.symm D48) own_nin0)))) K55 (own_nl (Ne.symm D7) own_nin0)) K75 (own_nr (sl_111 hw) own_nin0)) K85 (own_nl (Ne.symm D48) own_nin0))
  have F115 := (own_F (v := .null) (own_F (v := .null) (own_F (v := .null) (own_F (v := .null) (own_F (v := .null) (own_F (v := .null) (own_F (v := .null) (own_F (v := .null) (own_F (v := .null) (own_F (v := .null) (own_F (v := .null) (own_F (v := .null) (own_F (v := .null) (own_F (v := .null) (D2 (Or.inl (own_w hw 71 rfl)) (ty := (.object zs0)) (by decide)) K6 (own_nr (sl_63 hw) own_nin0)) K12 (own_nr (sl_64 hw) own_nin0)) K17 (own_nr (sl_58 hw) own_nin0)) K22 (own_nr (sl_80 hw) own_nin0)) K25 (own_nl (Ne.symm D7) own_nin0)) K28 (own_nl (Ne.symm D7) own_nin0)) K35 (own_nl (Ne.symm D7) own_nin0)) K38 (own_nl (Ne.symm D7) own_nin0)) K41 (own_nl (Ne.symm D7) own_nin0)) K44 (own_nl (Ne.symm D7) own_nin0)) K45 (own_nl (Ne.symm D48) (own_nl (Ne.symm D48) (own_nl (Ne.symm D48) own_nin0)))) K55 (own_nl (Ne.symm D7) own_nin0)) K75 (own_nr (sl_104 hw) own_nin0)) K85 (own_nl (Ne.symm D48) own_nin0))
  have F116 := (own_F (v := .null) (own_F (v := .null) (own_F (v := .null) (own_F (v := .null) (own_F (v := .null) (own_F (v := .null) (own_F (v := .null) (own_F (v := .null) (own_F (v := .null) (own_F (v := .null) (own_F (v := .null) (own_F (v := .null) (own_F (v := .null) (own_F (v := .null) (D2 (Or.inl (own_w hw 73 rfl)) (ty := (.object zs0)) (by decide)) K6 (own_nr (sl_70 hw) own_nin0)) K12 (own_nr (sl_71 hw) own_nin0)) K17 (own_nr (sl_65 hw) own_nin0)) K22 (own_nr (sl_79 hw) own_nin0)) K25 (own_nl (Ne.symm D7) own_nin0)) K28 (own_nl (Ne.symm D7) own_nin0)) K35 (own_nl (Ne.symm D7) own_nin0)) K38 (own_nl (Ne.symm D7) own_nin0)) K41 (own_nl (Ne.symm D7) own_nin0)) K44 (own_nl (Ne.symm D7) own_nin0)) K45 (own_nl (Ne.symm D48) (own_nl (Ne.symm D48) (own_nl (Ne.symm D48) own_nin0)))) K55 (own_nl (Ne.symm D7) own_nin0)) K75 (own_nr (sl_105 hw) own_nin0)) K85 (own_nl (Ne.symm D48) own_nin0))
  have F117 := (own_F (v := .null) (own_F (v := .null) (own_F (v := .null) (own_F (v := .null) (own_F (v := .null) (own_F (v := .null) (own_F (v := .null) (own_F (v := .null) (own_F (v := .null) (own_F (v := .null) F22 K25 (own_nl (Ne.symm D7) own_nin0)) K28 (own_nl (Ne.symm D7) own_nin0)) K35 (own_nl (Ne.symm D7) own_nin0)) K38 (own_nl (Ne.symm D7) own_nin0)) K41 (own_nl (Ne.symm D7) own_nin0)) K44 (own_nl (Ne.symm D7) own_nin0)) K45 (own_nl (Ne.symm D48) (own_nl (Ne.symm D48) (own_nl (Ne.symm D48) own_nin0)))) K55 (own_nl (Ne.symm D7) own_nin0)) K75 (own_nr (sl_112 hw) own_nin0)) K85 (own_nl (Ne.symm D48) own_nin0))
  have F118 := (own_F (v := .null) (own_F (v := .null) (own_F (v := .null) (own_F (v := .null) (own_F (v := .null) (own_F (v := .null) (own_F (v := .null) (own_F (v := .null) (own_F (v := .null) (own_F (v := .null) (own_F (v := .null) (own_F (v := .null) (own_F (v := .null) (own_F (v := .null) (D2 (Or.inl (own_w hw 82 rfl)) (ty := (.object zs2)) (by decide)) K6 (own_nr (sl_49 hw) own_nin0)) K12 (own_nr (sl_50 hw) own_nin0)) K17 (own_nr (sl_25 hw) own_nin0)) K22 (own_nr (sl_83 hw) own_nin0)) K25 (own_nl (Ne.symm D7) own_nin0)) K28 (own_nl (Ne.symm D7) own_nin0)) K35 (own_nl (Ne.symm D7) own_nin0)) K38 (own_nl (Ne.symm D7) own_nin0)) K41 (own_nl (Ne.symm D7) own_nin0)) K44 (own_nl (Ne.symm D7) own_nin0)) K45 (own_nl (Ne.symm D48) (own_nl (Ne.symm D48) (own_nl (Ne.symm D48) own_nin0)))) K55 (own_nl (Ne.symm D7) own_nin0)) K75 (own_nr (sl_106 hw) own_nin0)) K85 (own_nl (Ne.symm D48) own_nin0))
  have F119 := (own_F (v := .null) (own_F (v := .null) (own_F (v := .null) (own_F (v := .null) (own_F (v := .null) (own_F (v := .null) (own_F (v := .null) (own_F (v := .null) (own_F (v := .null) (own_F (v := .null) (own_F (v := .null) (own_F (v := .null) (own_F (v := .null) (own_F (v := .null) (D2 (Or.inl (own_w hw 94 rfl)) (ty := (.object zs2)) (by decide)) K6 (own_nr (sl_51 hw) own_nin0)) K12 (own_nr (sl_52 hw) own_nin0)) K17 (own_nr (sl_27 hw) own_nin0)) K22 (own_nr (sl_84 hw) own_nin0)) K25 (own_nl (Ne.symm D7) own_nin0)) K28 (own_nl (Ne.symm D7) own_nin0)) K35 (own_nl (Ne.symm D7) own_nin0)) K38 (own_nl (Ne.symm D7) own_nin0)) K41 (own_nl (Ne.symm D7) own_nin0)) K44 (own_nl (Ne.symm D7) own_nin0)) K45 (own_nl (Ne.symm D48) (own_nl (Ne.symm D48) (own_nl (Ne.symm D48) own_nin0)))) K55 (own_nl (Ne.symm D7) own_nin0)) K75 (own_nr (sl_108 hw) own_nin0)) K85 (own_nl (Ne.symm D48) own_nin0))
  have F120 := (own_F (v := (.int (2 : Int32))) G75_0 K85 (own_nl (Ne.symm D48) own_nin0))
  exact own_ret0 Y85 hx hlk Bd.returns (hb hby d7_134) ⟨rfl, b2, KC98, le2, F99, F100, F101, F102, F103, F104, F105, F106, F107, F108, G85_0, F109, F110, F111, F112, F113, F114, F115, F116, F117, F118, F119, F120⟩ (by decide) (by decide)
def P13_50 (Z : State) (a1 : Addr) (a2 : Addr) (h0 : Heap) (h : Heap) : Prop := own_Kp h0 h [(a1, Jvm.RoadKit.slotOf Z zs0 "key2" zs1), (a1, Jvm.RoadKit.slotOf Z zs0 "value2" zs1), (a1, Jvm.RoadKit.slotOf Z zs0 "key1" zs1), (a1, Jvm.RoadKit.slotOf Z zs0 "value1" zs1)] ∧ Fld Z h a1 zs0 "key2" zs1 .null ∧ Fld Z h a1 zs0 "value2" zs1 .null ∧ Fld Z h a1 zs0 "key1" zs1 (.ref a2) ∧ Fld Z h a1 zs0 "value1" zs1 .null
theorem P13_50_sz {Z : State} {a1 : Addr} {a2 : Addr} {h0 : Heap} : ∀ v h', (own_R none (P13_50 Z a1 a2 h0)) v h' → Array.size h0 ≤ Array.size h' := by
  intro v h' q
  obtain ⟨-, K, -⟩ := q
  exact K.1
set_option maxRecDepth 65536 in
set_option maxHeartbeats 40000000 in
theorem rm13_50 (l : Launch) (Z : State) (a0 : Array Value) (hw : ∀ d ∈ tables_1, d.before a0 Z = true) (ws : List Jvm.Cond) (a1 : Addr) (a2 : Addr) (h0 : Heap) (n0 : Nat) (Z0 : n0 ≤ Array.size h0) (P0 : Sta Z h0 zs0 "NULL_KEY" zs1 (.ref a2)) (P1 : Fld Z h0 a1 zs0 "key1" zs1 .null) (P2 : Fld Z h0 a1 zs0 "key2" zs1 .null) (P3 : Exa Z h0 a1 zs0) (P4 : n0 ≤ a1) (P5 : Fld Z h0 a1 zs0 "value1" zs1 .null) (P6 : Fld Z h0 a1 zs0 "value2" zs1 .null) :
    MetFree l (⟨zs0, "insertEntry", zs20⟩ : MethodName) (head1 (Jvm.Cond.code (⟨zs0, "insertEntry", zs20⟩ : MethodName) prog_25_method_4_code 5 none :: ws) ({ frames := 1, cells := 0, slots := 0, locals := 12 } : Room)) (fun a U => a = #[(.ref a1), (.int (1 : Int32)), .null, .null] ∧ Z.Warmed39 U.vm ∧ U.heap = h0) (fun _ _ _ _ _ => True) (fun _ U o U' => ∃ v L, o = .returned v ∧ own_QQ n0 (own_R none (P13_50 Z a1 a2 h0)) v U'.heap L ∧ FrameEnd U o U' L ({ frames := 1, cells := 0, slots := 0, locals := 12 } : Room).cells ({ frames := 1, cells := 0, slots := 0, locals := 12 } : Room).slots) := by
  refine MetFree.of_bodySF (plainFor_of_name pn_com_example_napkintree_napkintree_balancing_MultiwayTree_Node) hisR ?_
  intro p e s m args below meth c s₁ Bd hml0 hP hK
  obtain ⟨rfl, hZ, hh⟩ := hP
  have hx := Bd.exec
  have hby := Bd.bytes
  have hml : c.maxLocals = 5 := hml0
  have hown : s.vm.findClass zs0 = some m.cls := findClass_of_methodNamed Bd.named
  have hnm := (name_of_methodNamed Bd.named Bd.method).1
  have hlk : meth.locks = false := BodyLoose.notSynchronized Bd
  have Y0 : own_S p l e ({ frames := 1, cells := 0, slots := 0, locals := 12 } : Room) s m #[(.ref a1), (.int (1 : Int32)), .null, .null] below meth c n0 s₁ h0 0 0 := ⟨[], Stand.of_body Bd, Fr.nil n0, by rw [← hh, Bd.state]; rfl, Z0⟩
  refine (?_ : own_Fin p e below _ _)
  refine own_st (fun t k => castTop (ef_13_RINN m a1 (1 : Int32)) k) ?_
  refine own_aloadN Y0 hx (pc' := 1) (hb hby d13_0) rfl rfl rfl ?_
  refine own_static Y0 hx (pc' := 4) (W := 0) (cl' := 0) (sl' := 0) (as' := [.null]) (S' := []) hZ hown (own_w hw 107 rfl) (own_w hw 108 rfl) (own_w hw 3 rfl) (own_w hw 109 rfl) (by decide) (rm14_9 l Z a0 hw [] a2 h0 n0 (own_sz Y0) P0) (hb hby d13_1) rfl (by rw [hml]; rfl) rfl (lenOf pd__Ljava_lang_Object__Ljava_lang_Object_ rfl) rfl (by decide) (by decide) rfl rfl (by decide) (by decide) own_Same.sz (own_fixS (S2 := [(.ref a2)]) rfl (fun T1 Y1 => ?_))
  refine own_astore Y1 hx (pc' := 6) (Ls' := #[.val (.ref a1), .val (.int (1 : Int32)), .val .null, .val .null, .val (.ref a2)]) (hb hby d13_4) rfl rfl rfl ?_
  refine own_iloadN Y1 hx (pc' := 7) (hb hby d13_6) rfl rfl ?_
  refine own_iconst Y1 hx (pc' := 8) (x := (2 : Int32)) (hb hby d13_7) rfl (by decide) ?_
  refine own_icmpYes Y1 hx (pc' := 25) (hb hby d13_8) (by decide) (by decide) (by decide) ?_
  refine own_aloadN Y1 hx (pc' := 26) (hb hby d13_25) rfl rfl rfl ?_
  refine own_aloadN Y1 hx (pc' := 27) (hb hby d13_26) rfl rfl rfl ?_
  refine own_getF Y1 hx (pc' := 30) (v := .null) hZ hown (host := "") (Or.inl (own_w hw 81 rfl)) Via.refl P1 (hb hby d13_27) rfl (fun T2 Y2 => ?_)
  refine own_putF Y2 hx (pc' := 33) hZ hown (host := "") (Or.inl (own_w hw 110 rfl)) Via.refl P2 P3 (Or.inl (own_w hw 63 rfl)) (own_w hw 2 rfl) (ty := (.object zs2)) (by decide) rfl rfl P4 (hb hby d13_30) rfl (fun T3 h3 Y3 K3 F3 => ?_)
  refine own_aloadN Y3 hx (pc' := 34) (hb hby d13_33) rfl rfl rfl ?_
  refine own_aloadN Y3 hx (pc' := 35) (hb hby d13_34) rfl rfl rfl ?_
  have F4 := (own_F (v := .null) P5 K3 (own_nr (sl_19 hw) own_nin0))
  refine own_getF Y3 hx (pc' := 38) (v := .null) hZ hown (host := "") (Or.inl (own_w hw 93 rfl)) Via.refl F4 (hb hby d13_35) rfl (fun T5 Y5 => ?_)
  have F6 := (own_F (v := .null) P6 K3 (own_nr (sl_23 hw) own_nin0))
  have F7 := (own_E P3 K3)
  refine own_putF Y5 hx (pc' := 41) hZ hown (host := "") (Or.inl (own_w hw 111 rfl)) Via.refl F6 F7 (Or.inl (own_w hw 67 rfl)) (own_w hw 2 rfl) (ty := (.object zs2)) (by decide) rfl rfl P4 (hb hby d13_38) rfl (fun T8 h8 Y8 K8 F8 => ?_)
  refine own_iloadN Y8 hx (pc' := 42) (hb hby d13_41) rfl rfl ?_
  refine own_iconst Y8 hx (pc' := 43) (x := (1 : Int32)) (hb hby d13_42) rfl (by decide) ?_
  refine own_icmpNo Y8 hx (pc' := 46) (hb hby d13_43) rfl (by decide) ?_
  refine own_aloadN Y8 hx (pc' := 47) (hb hby d13_46) rfl rfl rfl ?_
  refine own_aload Y8 hx (pc' := 49) (hb hby d13_47) rfl rfl rfl ?_
  have F9 := (own_F (v := .null) (own_F (v := .null) P1 K3 (own_nr (sl_32 hw) own_nin0)) K8 (own_nr (sl_33 hw) own_nin0))
  have F10 := (own_E F7 K8)
  refine own_putF Y8 hx (pc' := 52) hZ hown (host := "") (Or.inl (own_w hw 81 rfl)) Via.refl F9 F10 (Or.inl (own_w hw 82 rfl)) (own_w hw 2 rfl) (ty := (.object zs2)) (by decide) rfl rfl P4 (hb hby d13_49) rfl (fun T11 h11 Y11 K11 F11 => ?_)
  refine own_aloadN Y11 hx (pc' := 53) (hb hby d13_52) rfl rfl rfl ?_
  refine own_aloadN Y11 hx (pc' := 54) (hb hby d13_53) rfl rfl rfl ?_
  have F12 := (own_F (v := .null) (own_F (v := .null) F4 K8 (own_nr (sl_38 hw) own_nin0)) K11 (own_nr (sl_18 hw) own_nin0))
  have F13 := (own_E F10 K11)
  refine own_putF Y11 hx (pc' := 57) hZ hown (host := "") (Or.inl (own_w hw 93 rfl)) Via.refl F12 F13 (Or.inl (own_w hw 94 rfl)) (own_w hw 2 rfl) (ty := (.object zs2)) (by decide) rfl rfl P4 (hb hby d13_54) rfl (fun T14 h14 Y14 K14 F14 => ?_)
  refine own_goto Y14 hx (pc' := 87) (hb hby d13_57) (by decide) (by decide) ?_
  have KC15 : own_Kp h0 h14 [(a1, Jvm.RoadKit.slotOf Z zs0 "key2" zs1), (a1, Jvm.RoadKit.slotOf Z zs0 "value2" zs1), (a1, Jvm.RoadKit.slotOf Z zs0 "key1" zs1), (a1, Jvm.RoadKit.slotOf Z zs0 "value1" zs1)] := (((((own_Kp.refl h0 [(a1, Jvm.RoadKit.slotOf Z zs0 "key2" zs1), (a1, Jvm.RoadKit.slotOf Z zs0 "value2" zs1), (a1, Jvm.RoadKit.slotOf Z zs0 "key1" zs1), (a1, Jvm.RoadKit.slotOf Z zs0 "value1" zs1)]).trans K3 (own_allS (Or.inl (List.mem_of_getElem? (i := 0) rfl)) own_all0)).trans K8 (own_allS (Or.inl (List.mem_of_getElem? (i := 1) rfl)) own_all0)).trans K11 (own_allS (Or.inl (List.mem_of_getElem? (i := 2) rfl)) own_all0)).trans K14 (own_allS (Or.inl (List.mem_of_getElem? (i := 3) rfl)) own_all0))
  have F16 := (own_F (v := .null) (own_F (v := .null) (own_F (v := .null) F3 K8 (own_nr (sl_42 hw) own_nin0)) K11 (own_nr (sl_17 hw) own_nin0)) K14 (own_nr (sl_43 hw) own_nin0))
  have F17 := (own_F (v := .null) (own_F (v := .null) F8 K11 (own_nr (sl_22 hw) own_nin0)) K14 (own_nr (sl_24 hw) own_nin0))
  have F18 := (own_F (v := (.ref a2)) F11 K14 (own_nr (sl_48 hw) own_nin0))
  exact own_ret0 Y14 hx hlk Bd.returns (hb hby d13_87) ⟨rfl, KC15, F16, F17, F18, F14⟩ (by decide) (by decide)
def P16_51 (Z : State) (a1 : Addr) (a2 : Addr) (h0 : Heap) (h : Heap) : Prop := own_Kp h0 h [(a1, Jvm.RoadKit.slotOf Z zs0 "child3" zs16), (a1, Jvm.RoadKit.slotOf Z zs0 "child2" zs16)] ∧ Fld Z h a1 zs0 "child3" zs16 .null ∧ Fld Z h a1 zs0 "child2" zs16 (.ref a2)
theorem P16_51_sz {Z : State} {a1 : Addr} {a2 : Addr} {h0 : Heap} : ∀ v h', (own_R none (P16_51 Z a1 a2 h0)) v h' → Array.size h0 ≤ Array.size h' := by
  intro v h' q
  obtain ⟨-, K, -⟩ := q
  exact K.1
set_option maxRecDepth 65536 in
set_option maxHeartbeats 40000000 in
theorem rm16_51 (l : Launch) (Z : State) (a0 : Array Value) (hw : ∀ d ∈ tables_1, d.before a0 Z = true) (ws : List Jvm.Cond) (a1 : Addr) (a2 : Addr) (h0 : Heap) (n0 : Nat) (Z0 : n0 ≤ Array.size h0) (P0 : Fld Z h0 a1 zs0 "child2" zs16 .null) (P1 : Fld Z h0 a1 zs0 "child3" zs16 .null) (P2 : Exa Z h0 a1 zs0) (P3 : n0 ≤ a1) :
    MetFree l (⟨zs0, "insertChild", zs21⟩ : MethodName) (head1 (Jvm.Cond.code (⟨zs0, "insertChild", zs21⟩ : MethodName) prog_25_method_6_code 3 none :: ws) ({ frames := 0, cells := 0, slots := 0, locals := 0 } : Room)) (fun a U => a = #[(.ref a1), (.int (2 : Int32)), (.ref a2)] ∧ Z.Warmed39 U.vm ∧ U.heap = h0) (fun _ _ _ _ _ => True) (fun _ U o U' => ∃ v L, o = .returned v ∧ own_QQ n0 (own_R none (P16_51 Z a1 a2 h0)) v U'.heap L ∧ FrameEnd U o U' L ({ frames := 0, cells := 0, slots := 0, locals := 0 } : Room).cells ({ frames := 0, cells := 0, slots := 0, locals := 0 } : Room).slots) := by
  refine MetFree.of_bodySF (plainFor_of_name pn_com_example_napkintree_napkintree_balancing_MultiwayTree_Node) hisR ?_
  intro p e s m args below meth c s₁ Bd hml0 hP hK
  obtain ⟨rfl, hZ, hh⟩ := hP
  have hx := Bd.exec
  have hby := Bd.bytes
  have hml : c.maxLocals = 3 := hml0
  have hown : s.vm.findClass zs0 = some m.cls := findClass_of_methodNamed Bd.named
  have hnm := (name_of_methodNamed Bd.named Bd.method).1
  have hlk : meth.locks = false := BodyLoose.notSynchronized Bd
  have Y0 : own_S p l e ({ frames := 0, cells := 0, slots := 0, locals := 0 } : Room) s m #[(.ref a1), (.int (2 : Int32)), (.ref a2)] below meth c n0 s₁ h0 0 0 := ⟨[], Stand.of_body Bd, Fr.nil n0, by rw [← hh, Bd.state]; rfl, Z0⟩
  refine (?_ : own_Fin p e below _ _)
  refine own_st (fun t k => castTop (ef_16_RIR m a1 (2 : Int32) a2) k) ?_
  refine own_iloadN Y0 hx (pc' := 1) (hb hby d16_0) rfl rfl ?_
  refine own_iconst Y0 hx (pc' := 2) (x := (3 : Int32)) (hb hby d16_1) rfl (by decide) ?_
  refine own_icmpYes Y0 hx (pc' := 13) (hb hby d16_2) (by decide) (by decide) (by decide) ?_
  refine own_aloadN Y0 hx (pc' := 14) (hb hby d16_13) rfl rfl rfl ?_
  refine own_aloadN Y0 hx (pc' := 15) (hb hby d16_14) rfl rfl rfl ?_
  refine own_getF Y0 hx (pc' := 18) (v := .null) hZ hown (host := "") (Or.inl (own_w hw 123 rfl)) Via.refl P0 (hb hby d16_15) rfl (fun T1 Y1 => ?_)
  refine own_putF Y1 hx (pc' := 21) hZ hown (host := "") (Or.inl (own_w hw 124 rfl)) Via.refl P1 P2 (Or.inl (own_w hw 73 rfl)) (own_w hw 2 rfl) (ty := (.object zs0)) (by decide) rfl rfl P3 (hb hby d16_18) rfl (fun T2 h2 Y2 K2 F2 => ?_)
  refine own_iloadN Y2 hx (pc' := 22) (hb hby d16_21) rfl rfl ?_
  refine own_iconst Y2 hx (pc' := 23) (x := (2 : Int32)) (hb hby d16_22) rfl (by decide) ?_
  refine own_icmpNo Y2 hx (pc' := 26) (hb hby d16_23) rfl (by decide) ?_
  refine own_aloadN Y2 hx (pc' := 27) (hb hby d16_26) rfl rfl rfl ?_
  refine own_aloadN Y2 hx (pc' := 28) (hb hby d16_27) rfl rfl rfl ?_
  have F3 := (own_F (v := .null) P0 K2 (own_nr (sl_77 hw) own_nin0))
  have F4 := (own_E P2 K2)
  refine own_putF Y2 hx (pc' := 31) hZ hown (host := "") (Or.inl (own_w hw 123 rfl)) Via.refl F3 F4 (Or.inl (own_w hw 71 rfl)) (own_w hw 2 rfl) (ty := (.object zs0)) (by decide) rfl rfl P3 (hb hby d16_28) rfl (fun T5 h5 Y5 K5 F5 => ?_)
  refine own_goto Y5 hx (pc' := 68) (hb hby d16_31) (by decide) (by decide) ?_
  have KC6 : own_Kp h0 h5 [(a1, Jvm.RoadKit.slotOf Z zs0 "child3" zs16), (a1, Jvm.RoadKit.slotOf Z zs0 "child2" zs16)] := (((own_Kp.refl h0 [(a1, Jvm.RoadKit.slotOf Z zs0 "child3" zs16), (a1, Jvm.RoadKit.slotOf Z zs0 "child2" zs16)]).trans K2 (own_allS (Or.inl (List.mem_of_getElem? (i := 0) rfl)) own_all0)).trans K5 (own_allS (Or.inl (List.mem_of_getElem? (i := 1) rfl)) own_all0))
  have F7 := (own_F (v := .null) F2 K5 (own_nr (sl_10 hw) own_nin0))
  exact own_ret0 Y5 hx hlk Bd.returns (hb hby d16_68) ⟨rfl, KC6, F7, F5⟩ (by decide) (by decide)
def P12_52 (Z : State) (a1 : Addr) (a2 : Addr) (a3 : Addr) (a4 : Addr) (h0 : Heap) (h : Heap) : Prop := own_Kp h0 h [(a1, Jvm.RoadKit.slotOf Z zs0 "key2" zs1), (a1, Jvm.RoadKit.slotOf Z zs0 "value2" zs1), (a1, Jvm.RoadKit.slotOf Z zs0 "key1" zs1), (a1, Jvm.RoadKit.slotOf Z zs0 "value1" zs1), (a1, Jvm.RoadKit.slotOf Z zs0 "child3" zs16), (a1, Jvm.RoadKit.slotOf Z zs0 "child2" zs16)] ∧ Fld Z h a1 zs0 "key2" zs1 .null ∧ Fld Z h a1 zs0 "value2" zs1 .null ∧ Fld Z h a1 zs0 "key1" zs1 (.ref a3) ∧ Fld Z h a1 zs0 "value1" zs1 .null ∧ Fld Z h a1 zs0 "child3" zs16 .null ∧ Fld Z h a1 zs0 "child2" zs16 (.ref a2)
theorem P12_52_sz {Z : State} {a1 : Addr} {a2 : Addr} {a3 : Addr} {a4 : Addr} {h0 : Heap} : ∀ v h', (own_R none (P12_52 Z a1 a2 a3 a4 h0)) v h' → Array.size h0 ≤ Array.size h' := by
  intro v h' q
  obtain ⟨-, K, -⟩ := q
  exact K.1
set_option maxRecDepth 65536 in
set_option maxHeartbeats 40000000 in
theorem rm12_52 (l : Launch) (Z : State) (a0 : Array Value) (hw : ∀ d ∈ tables_1, d.before a0 Z = true) (ws : List Jvm.Cond) (a1 : Addr) (a2 : Addr) (a3 : Addr) (a4 : Addr) (h0 : Heap) (n0 : Nat) (Z0 : n0 ≤ Array.size h0) (P0 : Exa Z h0 a1 zs0) (P1 : Sta Z h0 zs0 "NULL_KEY" zs1 (.ref a3)) (P2 : Fld Z h0 a1 zs0 "key1" zs1 .null) (P3 : Fld Z h0 a1 zs0 "key2" zs1 .null) (P4 : n0 ≤ a1) (P5 : Fld Z h0 a1 zs0 "value1" zs1 .null) (P6 : Fld Z h0 a1 zs0 "value2" zs1 .null) (P7 : Fld Z h0 a1 zs0 "child0" zs16 (.ref a4)) (P8 : Fld Z h0 a1 zs0 "child2" zs16 .null) (P9 : Fld Z h0 a1 zs0 "child3" zs16 .null) :
    MetFree l (⟨zs0, "insert", zs22⟩ : MethodName) (head1 (Jvm.Cond.code (⟨zs0, "insert", zs22⟩ : MethodName) prog_25_method_2_code 6 none :: ws) ({ frames := 2, cells := 0, slots := 0, locals := 28 } : Room)) (fun a U => a = #[(.ref a1), (.int (1 : Int32)), .null, .null, (.int (2 : Int32)), (.ref a2)] ∧ Z.Warmed39 U.vm ∧ U.heap = h0) (fun _ _ _ _ _ => True) (fun _ U o U' => ∃ v L, o = .returned v ∧ own_QQ n0 (own_R none (P12_52 Z a1 a2 a3 a4 h0)) v U'.heap L ∧ FrameEnd U o U' L ({ frames := 2, cells := 0, slots := 0, locals := 28 } : Room).cells ({ frames := 2, cells := 0, slots := 0, locals := 28 } : Room).slots) := by
  refine MetFree.of_bodySF (plainFor_of_name pn_com_example_napkintree_napkintree_balancing_MultiwayTree_Node) hisR ?_
  intro p e s m args below meth c s₁ Bd hml0 hP hK
  obtain ⟨rfl, hZ, hh⟩ := hP
  have hx := Bd.exec
  have hby := Bd.bytes
  have hml : c.maxLocals = 6 := hml0
  have hown : s.vm.findClass zs0 = some m.cls := findClass_of_methodNamed Bd.named
  have hnm := (name_of_methodNamed Bd.named Bd.method).1
  have hlk : meth.locks = false := BodyLoose.notSynchronized Bd
  have Y0 : own_S p l e ({ frames := 2, cells := 0, slots := 0, locals := 28 } : Room) s m #[(.ref a1), (.int (1 : Int32)), .null, .null, (.int (2 : Int32)), (.ref a2)] below meth c n0 s₁ h0 0 0 := ⟨[], Stand.of_body Bd, Fr.nil n0, by rw [← hh, Bd.state]; rfl, Z0⟩
  refine (?_ : own_Fin p e below _ _)
  refine own_st (fun t k => castTop (ef_12_RINNIR m a1 (1 : Int32) (2 : Int32) a2) k) ?_
  refine own_aloadN Y0 hx (pc' := 1) (hb hby d12_0) rfl rfl rfl ?_
  refine own_iloadN Y0 hx (pc' := 2) (hb hby d12_1) rfl rfl ?_
  refine own_aloadN Y0 hx (pc' := 3) (hb hby d12_2) rfl rfl rfl ?_
  refine own_aloadN Y0 hx (pc' := 4) (hb hby d12_3) rfl rfl rfl ?_
  refine own_virtual Y0 hx (pc' := 7) (W := 0) (cl' := 0) (sl' := 0) (as' := [(.int (1 : Int32)), .null, .null]) (S' := []) (a := a1) hZ hown (own_w hw 102 rfl) (own_w hw 103 rfl) (notFace_of_selects (args := #[]) (mvT hZ (own_w hw 105 rfl))) (own_w hw 105 rfl) (own_w hw 104 rfl) (own_w hw 3 rfl) (own_w hw 106 rfl) (by decide) P0 (rm13_50 l Z a0 hw [] a1 a3 h0 n0 (own_sz Y0) P1 P2 P3 P0 P4 P5 P6) (hb hby d12_4) rfl (by rw [hml]; rfl) rfl (lenOf pd__ILjava_lang_Object_Ljava_lang_Object__V rfl) rfl (by decide) (by decide) rfl rfl (by decide) (by decide) P13_50_sz (own_fixR (S2 := []) rfl (fun T1 h1 Y1 R1 => ?_))
  obtain ⟨K1, G1_0, G1_1, G1_2, G1_3⟩ := R1
  refine own_aloadN Y1 hx (pc' := 8) (hb hby d12_7) rfl rfl rfl ?_
  have F3 := (own_E P0 K1)
  have F4 := (own_F (v := (.ref a4)) P7 K1 (own_nr (sl_54 hw) (own_nr (sl_55 hw) (own_nr (sl_56 hw) (own_nr (sl_57 hw) own_nin0)))))
  refine own_virtual Y1 hx (pc' := 11) (W := 0) (cl' := 0) (sl' := 0) (as' := []) (S' := []) (a := a1) hZ hown (own_w hw 114 rfl) (own_w hw 115 rfl) (notFace_of_selects (args := #[]) (mvT hZ (own_w hw 117 rfl))) (own_w hw 117 rfl) (own_w hw 116 rfl) (own_w hw 3 rfl) (own_w hw 118 rfl) (by decide) F3 (rm15_11 l Z a0 hw [] a1 a4 h1 n0 (own_sz Y1) F4) (hb hby d12_8) rfl (by rw [hml]; rfl) rfl (lenOf pd___Z rfl) rfl (by decide) (by decide) rfl rfl (by decide) (by decide) own_Same.sz (own_fixS (S2 := [(.int (0 : Int32))]) rfl (fun T2 Y2 => ?_))
  refine own_ifNo Y2 hx (pc' := 14) (hb hby d12_11) rfl (by decide) ?_
  refine own_aloadN Y2 hx (pc' := 15) (hb hby d12_14) rfl rfl rfl ?_
  refine own_iload Y2 hx (pc' := 17) (hb hby d12_15) rfl rfl ?_
  refine own_aload Y2 hx (pc' := 19) (hb hby d12_17) rfl rfl rfl ?_
  have F6 := (own_F (v := .null) P8 K1 (own_nr (sl_59 hw) (own_nr (sl_60 hw) (own_nr (sl_61 hw) (own_nr (sl_62 hw) own_nin0)))))
  have F7 := (own_F (v := .null) P9 K1 (own_nr (sl_66 hw) (own_nr (sl_67 hw) (own_nr (sl_68 hw) (own_nr (sl_69 hw) own_nin0)))))
  refine own_private Y2 hx (pc' := 22) (W := 0) (cl' := 0) (sl' := 0) (as' := [(.int (2 : Int32)), (.ref a2)]) (S' := []) (a := a1) hZ hown (own_w hw 119 rfl) (own_w hw 120 rfl) (own_selP hZ (own_nfI (own_w hw 2 rfl)) (own_w hw 121 rfl) (own_w hw 120 rfl) (by decide)) (own_w hw 121 rfl) (own_w hw 3 rfl) (own_w hw 122 rfl) (by decide) F3 (rm16_51 l Z a0 hw [] a1 a2 h1 n0 (own_sz Y2) F6 F7 F3 P4) (hb hby d12_19) rfl (by rw [hml]; rfl) rfl (lenOf pd__ILcom_example_napkintree_napkintree_balancing_MultiwayTree_Node__V rfl) rfl (by decide) (by decide) rfl rfl (by decide) (by decide) P16_51_sz (own_fixR (S2 := []) rfl (fun T5 h5 Y5 R5 => ?_))
  obtain ⟨K5, G5_0, G5_1⟩ := R5
  have KC8 : own_Kp h0 h5 [(a1, Jvm.RoadKit.slotOf Z zs0 "key2" zs1), (a1, Jvm.RoadKit.slotOf Z zs0 "value2" zs1), (a1, Jvm.RoadKit.slotOf Z zs0 "key1" zs1), (a1, Jvm.RoadKit.slotOf Z zs0 "value1" zs1), (a1, Jvm.RoadKit.slotOf Z zs0 "child3" zs16), (a1, Jvm.RoadKit.slotOf Z zs0 "child2" zs16)] := (((own_Kp.refl h0 [(a1, Jvm.RoadKit.slotOf Z zs0 "key2" zs1), (a1, Jvm.RoadKit.slotOf Z zs0 "value2" zs1), (a1, Jvm.RoadKit.slotOf Z zs0 "key1" zs1), (a1, Jvm.RoadKit.slotOf Z zs0 "value1" zs1), (a1, Jvm.RoadKit.slotOf Z zs0 "child3" zs16), (a1, Jvm.RoadKit.slotOf Z zs0 "child2" zs16)]).trans K1 (own_allS (Or.inl (List.mem_of_getElem? (i := 0) rfl)) (own_allS (Or.inl (List.mem_of_getElem? (i := 1) rfl)) (own_allS (Or.inl (List.mem_of_getElem? (i := 2) rfl)) (own_allS (Or.inl (List.mem_of_getElem? (i := 3) rfl)) own_all0))))).trans K5 (own_allS (Or.inl (List.mem_of_getElem? (i := 4) rfl)) (own_allS (Or.inl (List.mem_of_getElem? (i := 5) rfl)) own_all0)))
  have F9 := (own_F (v := .null) G1_0 K5 (own_nr (sl_16 hw) (own_nr (sl_15 hw) own_nin0)))
  have F10 := (own_F (v := .null) G1_1 K5 (own_nr (sl_21 hw) (own_nr (sl_20 hw) own_nin0)))
  have F11 := (own_F (v := (.ref a3)) G1_2 K5 (own_nr (sl_12 hw) (own_nr (sl_11 hw) own_nin0)))
  have F12 := (own_F (v := .null) G1_3 K5 (own_nr (sl_14 hw) (own_nr (sl_13 hw) own_nin0)))
  exact own_ret0 Y5 hx hlk Bd.returns (hb hby d12_22) ⟨rfl, KC8, F9, F10, F11, F12, G5_0, G5_1⟩ (by decide) (by decide)
def P7_53 (Z : State) (a1 : Addr) (a2 : Addr) (a3 : Addr) (a4 : Addr) (a5 : Addr) (a6 : Addr) (a7 : Addr) (h0 : Heap) (h : Heap) : Prop := ∃ b2 : Addr, own_Kp h0 h [(a3, Jvm.RoadKit.slotOf Z zs0 "child2" zs16), (a3, Jvm.RoadKit.slotOf Z zs0 "child3" zs16), (a3, Jvm.RoadKit.slotOf Z zs0 "key1" zs1), (a3, Jvm.RoadKit.slotOf Z zs0 "key2" zs1), (a3, Jvm.RoadKit.slotOf Z zs0 "value1" zs1), (a3, Jvm.RoadKit.slotOf Z zs0 "value2" zs1), (a2, Jvm.RoadKit.slotOf Z zs0 "key2" zs1), (a2, Jvm.RoadKit.slotOf Z zs0 "value2" zs1), (a2, Jvm.RoadKit.slotOf Z zs0 "key1" zs1), (a2, Jvm.RoadKit.slotOf Z zs0 "value1" zs1), (a2, Jvm.RoadKit.slotOf Z zs0 "child3" zs16), (a2, Jvm.RoadKit.slotOf Z zs0 "child2" zs16), (a3, Jvm.RoadKit.slotOf Z zs0 "mark" "I"), (a2, Jvm.RoadKit.slotOf Z zs0 "mark" "I")] ∧ Array.size h0 ≤ b2 ∧ Fld Z h a3 zs0 "child2" zs16 .null ∧ Fld Z h a3 zs0 "child3" zs16 .null ∧ Fld Z h a3 zs0 "key1" zs1 .null ∧ Fld Z h a3 zs0 "key2" zs1 .null ∧ Fld Z h a3 zs0 "value1" zs1 .null ∧ Fld Z h a3 zs0 "value2" zs1 .null ∧ Fld Z h a2 zs0 "key2" zs1 .null ∧ Fld Z h a2 zs0 "value2" zs1 .null ∧ Fld Z h a2 zs0 "key1" zs1 (.ref a4) ∧ Fld Z h a2 zs0 "value1" zs1 .null ∧ Fld Z h a2 zs0 "child3" zs16 .null ∧ Fld Z h a2 zs0 "child2" zs16 (.ref b2) ∧ Fld Z h a3 zs0 "mark" "I" (.int (2 : Int32)) ∧ Fld Z h a2 zs0 "mark" "I" (.int (1 : Int32)) ∧ Exa Z h b2 zs0 ∧ Fld Z h b2 zs0 "child0" zs16 .null ∧ Fld Z h b2 zs0 "key2" zs1 .null ∧ Fld Z h b2 zs0 "key0" zs1 .null ∧ Fld Z h b2 zs0 "value2" zs1 .null ∧ Fld Z h b2 zs0 "value0" zs1 .null ∧ Fld Z h b2 zs0 "child2" zs16 .null ∧ Fld Z h b2 zs0 "child3" zs16 .null ∧ Fld Z h b2 zs0 "child1" zs16 .null ∧ Fld Z h b2 zs0 "key1" zs1 .null ∧ Fld Z h b2 zs0 "value1" zs1 .null ∧ Fld Z h b2 zs0 "mark" "I" (.int (2 : Int32))
theorem P7_53_sz {Z : State} {a1 : Addr} {a2 : Addr} {a3 : Addr} {a4 : Addr} {a5 : Addr} {a6 : Addr} {a7 : Addr} {h0 : Heap} : ∀ v h', (own_R none (P7_53 Z a1 a2 a3 a4 a5 a6 a7 h0)) v h' → Array.size h0 ≤ Array.size h' := by
  intro v h' q
  obtain ⟨-, _, K, -⟩ := q
  exact K.1
set_option maxRecDepth 65536 in
set_option maxHeartbeats 40000000 in
theorem rm7_53 (l : Launch) (Z : State) (a0 : Array Value) (hw : ∀ d ∈ tables_1, d.before a0 Z = true) (ws : List Jvm.Cond) (a1 : Addr) (a2 : Addr) (a3 : Addr) (a4 : Addr) (a5 : Addr) (a6 : Addr) (a7 : Addr) (h0 : Heap) (n0 : Nat) (Z0 : n0 ≤ Array.size h0) (P0 : Exa Z h0 a2 zs0) (P1 : Fld Z h0 a2 zs0 "child1" zs16 (.ref a3)) (P2 : Fld Z h0 a3 zs0 "key2" zs1 .null) (P3 : Fld Z h0 a3 zs0 "value2" zs1 .null) (P4 : Exa Z h0 a3 zs0) (P5 : Fld Z h0 a3 zs0 "child2" zs16 .null) (P6 : Fld Z h0 a3 zs0 "child3" zs16 .null) (P7 : n0 ≤ a3) (P8 : Fld Z h0 a3 zs0 "key1" zs1 .null) (P9 : Sta Z h0 zs0 "NULL_KEY" zs1 (.ref a4)) (P10 : Fld Z h0 a3 zs0 "value1" zs1 .null) (P11 : Fld Z h0 a2 zs0 "key1" zs1 .null) (P12 : a2 ≠ a3) (P13 : Fld Z h0 a2 zs0 "key2" zs1 .null) (P14 : n0 ≤ a2) (P15 : Fld Z h0 a2 zs0 "value1" zs1 .null) (P16 : Fld Z h0 a2 zs0 "value2" zs1 .null) (P17 : Fld Z h0 a2 zs0 "child0" zs16 (.ref a5)) (P18 : Fld Z h0 a2 zs0 "child2" zs16 .null) (P19 : Fld Z h0 a2 zs0 "child3" zs16 .null) (P20 : Sta Z h0 zs3 "SPLIT" zs4 (.ref a6)) (P21 : Exa Z h0 a1 zs9) (P22 : Fld Z h0 a1 zs7 "shapeCount" "I" (.int (0 : Int32))) (P23 : Sta Z h0 zs6 "MARK_BITS" "I" (.int (2 : Int32))) (P24 : Exa Z h0 a6 zs3) (P25 : Fld Z h0 a6 zs5 "ordinal" "I" (.int (1 : Int32))) (P26 : Fld Z h0 a3 zs0 "mark" "I" (.int (2 : Int32))) (P27 : Sta Z h0 zs3 "ABSORBED" zs4 (.ref a7)) (P28 : Exa Z h0 a7 zs3) (P29 : Fld Z h0 a7 zs5 "ordinal" "I" (.int (0 : Int32))) (P30 : Fld Z h0 a2 zs0 "mark" "I" (.int (3 : Int32))) :
    MetFree l (⟨zs6, "splitChild", zs24⟩ : MethodName) (head1 (Jvm.Cond.code (⟨zs6, "splitChild", zs24⟩ : MethodName) prog_24_method_6_code 7 none :: ws) ({ frames := 3, cells := 1, slots := 11, locals := 45 } : Room)) (fun a U => a = #[(.ref a1), (.ref a2), (.int (1 : Int32))] ∧ Z.Warmed39 U.vm ∧ U.heap = h0) (fun _ _ _ _ _ => True) (fun _ U o U' => ∃ v L, o = .returned v ∧ own_QQ n0 (own_R none (P7_53 Z a1 a2 a3 a4 a5 a6 a7 h0)) v U'.heap L ∧ FrameEnd U o U' L ({ frames := 3, cells := 1, slots := 11, locals := 45 } : Room).cells ({ frames := 3, cells := 1, slots := 11, locals := 45 } : Room).slots) := by
  refine MetFree.of_bodySF (plainFor_of_name pn_com_example_napkintree_napkintree_balancing_MultiwayTree) hisR ?_
  intro p e s m args below meth c s₁ Bd hml0 hP hK
  obtain ⟨rfl, hZ, hh⟩ := hP
  have hx := Bd.exec
  have hby := Bd.bytes
  have hml : c.maxLocals = 7 := hml0
  have hown : s.vm.findClass zs6 = some m.cls := findClass_of_methodNamed Bd.named
  have hnm := (name_of_methodNamed Bd.named Bd.method).1
  have hlk : meth.locks = false := BodyLoose.notSynchronized Bd
  have Y0 : own_S p l e ({ frames := 3, cells := 1, slots := 11, locals := 45 } : Room) s m #[(.ref a1), (.ref a2), (.int (1 : Int32))] below meth c n0 s₁ h0 0 0 := ⟨[], Stand.of_body Bd, Fr.nil n0, by rw [← hh, Bd.state]; rfl, Z0⟩
  refine (?_ : own_Fin p e below _ _)
  refine own_st (fun t k => castTop (ef_7_RRI m a1 a2 (1 : Int32)) k) ?_
  refine own_aloadN Y0 hx (pc' := 1) (hb hby d7_0) rfl rfl rfl ?_
  refine own_iloadN Y0 hx (pc' := 2) (hb hby d7_1) rfl rfl ?_
  refine own_virtual Y0 hx (pc' := 5) (W := 0) (cl' := 0) (sl' := 0) (as' := [(.int (1 : Int32))]) (S' := []) (a := a2) hZ hown (own_w hw 56 rfl) (own_w hw 57 rfl) (notFace_of_selects (args := #[]) (mvT hZ (own_w hw 59 rfl))) (own_w hw 59 rfl) (own_w hw 58 rfl) (own_w hw 3 rfl) (own_w hw 60 rfl) (by decide) P0 (rm8_36 l Z a0 hw [] a2 a3 h0 n0 (own_sz Y0) P1) (hb hby d7_2) rfl (by rw [hml]; rfl) rfl (lenOf pd__I_Lcom_example_napkintree_napkintree_balancing_MultiwayTree_Node_ rfl) rfl (by decide) (by decide) rfl rfl (by decide) (by decide) own_Same.sz (own_fixS (S2 := [(.ref a3)]) rfl (fun T1 Y1 => ?_))
  refine own_astoreN Y1 hx (pc' := 6) (Ls' := #[.val (.ref a1), .val (.ref a2), .val (.int (1 : Int32)), .val (.ref a3), .unset, .unset, .unset]) (hb hby d7_5) rfl rfl rfl ?_
  refine own_new Y1 hx (pc' := 9) (cl' := 1) (sl' := 11) hZ hown (own_w hw 44 rfl) (own_w hw 2 rfl) (own_w hw 3 rfl) (hb hby d7_6) rfl rfl rfl (by decide) (by decide) (fun T2 h2 b2 Y2 K2 le2 E2 D2 => ?_)
  refine own_dup Y2 hx (pc' := 10) (hb hby d7_9) rfl rfl ?_
  refine own_special Y2 hx (pc' := 13) (W := 1) (cl' := 1) (sl' := 11) (as' := []) (S' := [(.ref b2)]) (a := b2) rfl hZ hown (own_w hw 45 rfl) (own_w hw 5 rfl) (own_w hw 3 rfl) (own_w hw 6 rfl) (by decide) (rm1_1 l Z a0 hw [] b2 h2 n0 (own_sz Y2)) (hb hby d7_10) rfl (by rw [hml]; rfl) rfl (lenOf pd___V rfl) rfl (by decide) (by decide) rfl rfl (by decide) (by decide) own_Same.sz (own_fixS (S2 := [(.ref b2)]) rfl (fun T3 Y3 => ?_))
  refine own_astore Y3 hx (pc' := 15) (Ls' := #[.val (.ref a1), .val (.ref a2), .val (.int (1 : Int32)), .val (.ref a3), .val (.ref b2), .unset, .unset]) (hb hby d7_13) rfl rfl rfl ?_
  refine own_aload Y3 hx (pc' := 17) (hb hby d7_15) rfl rfl rfl ?_
  refine own_aloadN Y3 hx (pc' := 18) (hb hby d7_17) rfl rfl rfl ?_
  have F4 := (own_F (v := .null) P2 K2 own_nin0)
  refine own_getF Y3 hx (pc' := 21) (v := .null) hZ hown (Or.inr (own_w hw 62 rfl)) Via.refl F4 (hb hby d7_18) rfl (fun T5 Y5 => ?_)
  refine own_putF Y5 hx (pc' := 24) hZ hown (Or.inr (own_w hw 64 rfl)) Via.refl (D2 (Or.inl (own_w hw 65 rfl)) (ty := (.object zs2)) (by decide)) E2 (Or.inl (own_w hw 65 rfl)) (own_w hw 2 rfl) (ty := (.object zs2)) (by decide) rfl rfl (Nat.le_trans Z0 le2) (hb hby d7_21) rfl (fun T6 h6 Y6 K6 F6 => ?_)
  refine own_aload Y6 hx (pc' := 26) (hb hby d7_24) rfl rfl rfl ?_
  refine own_aloadN Y6 hx (pc' := 27) (hb hby d7_26) rfl rfl rfl ?_
  have D7 : a3 ≠ b2 := (Nat.ne_of_lt (Nat.lt_of_lt_of_le P4.lt le2))
  have F8 := (own_F (v := .null) (own_F (v := .null) P3 K2 own_nin0) K6 (own_nl D7 own_nin0))
  refine own_getF Y6 hx (pc' := 30) (v := .null) hZ hown (Or.inr (own_w hw 66 rfl)) Via.refl F8 (hb hby d7_27) rfl (fun T9 Y9 => ?_)
  have F10 := (own_F (v := .null) (D2 (Or.inl (own_w hw 69 rfl)) (ty := (.object zs2)) (by decide)) K6 (own_nr (sl_4 hw) own_nin0))
  have F11 := (own_E E2 K6)
  refine own_putF Y9 hx (pc' := 33) hZ hown (Or.inr (own_w hw 68 rfl)) Via.refl F10 F11 (Or.inl (own_w hw 69 rfl)) (own_w hw 2 rfl) (ty := (.object zs2)) (by decide) rfl rfl (Nat.le_trans Z0 le2) (hb hby d7_30) rfl (fun T12 h12 Y12 K12 F12 => ?_)
  refine own_aload Y12 hx (pc' := 35) (hb hby d7_33) rfl rfl rfl ?_
  refine own_aloadN Y12 hx (pc' := 36) (hb hby d7_35) rfl rfl rfl ?_
  have F13 := (own_F (v := .null) (own_F (v := .null) (own_F (v := .null) P5 K2 own_nin0) K6 (own_nl D7 own_nin0)) K12 (own_nl D7 own_nin0))
  refine own_getF Y12 hx (pc' := 39) (v := .null) hZ hown (Or.inr (own_w hw 70 rfl)) Via.refl F13 (hb hby d7_36) rfl (fun T14 Y14 => ?_)
  have F15 := (own_F (v := .null) (own_F (v := .null) (D2 (Or.inl (own_w hw 50 rfl)) (ty := (.object zs0)) (by decide)) K6 (own_nr (sl_5 hw) own_nin0)) K12 (own_nr (sl_6 hw) own_nin0))
  have F16 := (own_E F11 K12)
  refine own_putF Y14 hx (pc' := 42) hZ hown (Or.inr (own_w hw 49 rfl)) Via.refl F15 F16 (Or.inl (own_w hw 50 rfl)) (own_w hw 2 rfl) (ty := (.object zs0)) (by decide) rfl rfl (Nat.le_trans Z0 le2) (hb hby d7_39) rfl (fun T17 h17 Y17 K17 F17 => ?_)
  refine own_aload Y17 hx (pc' := 44) (hb hby d7_42) rfl rfl rfl ?_
  refine own_aloadN Y17 hx (pc' := 45) (hb hby d7_44) rfl rfl rfl ?_
  have F18 := (own_F (v := .null) (own_F (v := .null) (own_F (v := .null) (own_F (v := .null) P6 K2 own_nin0) K6 (own_nl D7 own_nin0)) K12 (own_nl D7 own_nin0)) K17 (own_nl D7 own_nin0))
  refine own_getF Y17 hx (pc' := 48) (v := .null) hZ hown (Or.inr (own_w hw 72 rfl)) Via.refl F18 (hb hby d7_45) rfl (fun T19 Y19 => ?_)
  have F20 := (own_F (v := .null) (own_F (v := .null) (own_F (v := .null) (D2 (Or.inl (own_w hw 75 rfl)) (ty := (.object zs0)) (by decide)) K6 (own_nr (sl_7 hw) own_nin0)) K12 (own_nr (sl_8 hw) own_nin0)) K17 (own_nr (sl_9 hw) own_nin0))
  have F21 := (own_E F16 K17)
  refine own_putF Y19 hx (pc' := 51) hZ hown (Or.inr (own_w hw 74 rfl)) Via.refl F20 F21 (Or.inl (own_w hw 75 rfl)) (own_w hw 2 rfl) (ty := (.object zs0)) (by decide) rfl rfl (Nat.le_trans Z0 le2) (hb hby d7_48) rfl (fun T22 h22 Y22 K22 F22 => ?_)
  refine own_aloadN Y22 hx (pc' := 52) (hb hby d7_51) rfl rfl rfl ?_
  refine own_aconstNull Y22 hx (pc' := 53) (hb hby d7_52) rfl ?_
  have F23 := (own_F (v := .null) (own_F (v := .null) F13 K17 (own_nl D7 own_nin0)) K22 (own_nl D7 own_nin0))
  have F24 := (own_E (own_E (own_E (own_E (own_E P4 K2) K6) K12) K17) K22)
  refine own_putF Y22 hx (pc' := 56) hZ hown (Or.inr (own_w hw 70 rfl)) Via.refl F23 F24 (Or.inl (own_w hw 71 rfl)) (own_w hw 2 rfl) (ty := (.object zs0)) (by decide) rfl rfl P7 (hb hby d7_53) rfl (fun T25 h25 Y25 K25 F25 => ?_)
  refine own_aloadN Y25 hx (pc' := 57) (hb hby d7_56) rfl rfl rfl ?_
  refine own_aconstNull Y25 hx (pc' := 58) (hb hby d7_57) rfl ?_
  have F26 := (own_F (v := .null) (own_F (v := .null) F18 K22 (own_nl D7 own_nin0)) K25 (own_nr (sl_10 hw) own_nin0))
  have F27 := (own_E F24 K25)
  refine own_putF Y25 hx (pc' := 61) hZ hown (Or.inr (own_w hw 72 rfl)) Via.refl F26 F27 (Or.inl (own_w hw 73 rfl)) (own_w hw 2 rfl) (ty := (.object zs0)) (by decide) rfl rfl P7 (hb hby d7_58) rfl (fun T28 h28 Y28 K28 F28 => ?_)
  refine own_aloadN Y28 hx (pc' := 62) (hb hby d7_61) rfl rfl rfl ?_
  refine own_iconst Y28 hx (pc' := 63) (x := (1 : Int32)) (hb hby d7_62) rfl (by decide) ?_
  have F30 := (own_E F27 K28)
  have F31 := (own_F (v := .null) (own_F (v := .null) (own_F (v := .null) (own_F (v := .null) (own_F (v := .null) (own_F (v := .null) (own_F (v := .null) P8 K2 own_nin0) K6 (own_nl D7 own_nin0)) K12 (own_nl D7 own_nin0)) K17 (own_nl D7 own_nin0)) K22 (own_nl D7 own_nin0)) K25 (own_nr (sl_11 hw) own_nin0)) K28 (own_nr (sl_12 hw) own_nin0))
  have F32 := (own_St (own_St (own_St (own_St (own_St (own_St (own_St P9 K2 own_all0) K6 (own_allS (own_plain E2) own_all0)) K12 (own_allS (own_plain F11) own_all0)) K17 (own_allS (own_plain F16) own_all0)) K22 (own_allS (own_plain F21) own_all0)) K25 (own_allS (own_plain F24) own_all0)) K28 (own_allS (own_plain F27) own_all0))
  refine own_virtual Y28 hx (pc' := 66) (W := 0) (cl' := 1) (sl' := 11) (as' := [(.int (1 : Int32))]) (S' := []) (a := a3) hZ hown (own_w hw 76 rfl) (own_w hw 77 rfl) (notFace_of_selects (args := #[]) (mvT hZ (own_w hw 79 rfl))) (own_w hw 79 rfl) (own_w hw 78 rfl) (own_w hw 3 rfl) (own_w hw 80 rfl) (by decide) F30 (rm9_7 l Z a0 hw [] a3 a4 h28 n0 (own_sz Y28) F31 F32) (hb hby d7_63) rfl (by rw [hml]; rfl) rfl (lenOf pd__I_Ljava_lang_Object_ rfl) rfl (by decide) (by decide) rfl rfl (by decide) (by decide) own_Same.sz (own_fixS (S2 := [.null]) rfl (fun T29 Y29 => ?_))
  refine own_astore Y29 hx (pc' := 68) (Ls' := #[.val (.ref a1), .val (.ref a2), .val (.int (1 : Int32)), .val (.ref a3), .val (.ref b2), .val .null, .unset]) (hb hby d7_66) rfl rfl rfl ?_
  refine own_aloadN Y29 hx (pc' := 69) (hb hby d7_68) rfl rfl rfl ?_
  refine own_iconst Y29 hx (pc' := 70) (x := (1 : Int32)) (hb hby d7_69) rfl (by decide) ?_
  have F34 := (own_F (v := .null) (own_F (v := .null) (own_F (v := .null) (own_F (v := .null) (own_F (v := .null) (own_F (v := .null) (own_F (v := .null) P10 K2 own_nin0) K6 (own_nl D7 own_nin0)) K12 (own_nl D7 own_nin0)) K17 (own_nl D7 own_nin0)) K22 (own_nl D7 own_nin0)) K25 (own_nr (sl_13 hw) own_nin0)) K28 (own_nr (sl_14 hw) own_nin0))
  refine own_virtual Y29 hx (pc' := 73) (W := 0) (cl' := 1) (sl' := 11) (as' := [(.int (1 : Int32))]) (S' := []) (a := a3) hZ hown (own_w hw 88 rfl) (own_w hw 89 rfl) (notFace_of_selects (args := #[]) (mvT hZ (own_w hw 91 rfl))) (own_w hw 91 rfl) (own_w hw 90 rfl) (own_w hw 3 rfl) (own_w hw 92 rfl) (by decide) F30 (rm11_8 l Z a0 hw [] a3 h28 n0 (own_sz Y29) F34) (hb hby d7_70) rfl (by rw [hml]; rfl) rfl (lenOf pd__I_Ljava_lang_Object_ rfl) rfl (by decide) (by decide) rfl rfl (by decide) (by decide) own_Same.sz (own_fixS (S2 := [.null]) rfl (fun T33 Y33 => ?_))
  refine own_astore Y33 hx (pc' := 75) (Ls' := #[.val (.ref a1), .val (.ref a2), .val (.int (1 : Int32)), .val (.ref a3), .val (.ref b2), .val .null, .val .null]) (hb hby d7_73) rfl rfl rfl ?_
  refine own_aloadN Y33 hx (pc' := 76) (hb hby d7_75) rfl rfl rfl ?_
  refine own_aconstNull Y33 hx (pc' := 77) (hb hby d7_76) rfl ?_
  refine own_putF Y33 hx (pc' := 80) hZ hown (Or.inr (own_w hw 95 rfl)) Via.refl F31 F30 (Or.inl (own_w hw 82 rfl)) (own_w hw 2 rfl) (ty := (.object zs2)) (by decide) rfl rfl P7 (hb hby d7_77) rfl (fun T35 h35 Y35 K35 F35 => ?_)
  refine own_aloadN Y35 hx (pc' := 81) (hb hby d7_80) rfl rfl rfl ?_
  refine own_aconstNull Y35 hx (pc' := 82) (hb hby d7_81) rfl ?_
  have F36 := (own_F (v := .null) (own_F (v := .null) (own_F (v := .null) (own_F (v := .null) (own_F (v := .null) (own_F (v := .null) (own_F (v := .null) F4 K6 (own_nl D7 own_nin0)) K12 (own_nl D7 own_nin0)) K17 (own_nl D7 own_nin0)) K22 (own_nl D7 own_nin0)) K25 (own_nr (sl_15 hw) own_nin0)) K28 (own_nr (sl_16 hw) own_nin0)) K35 (own_nr (sl_17 hw) own_nin0))
  have F37 := (own_E F30 K35)
  refine own_putF Y35 hx (pc' := 85) hZ hown (Or.inr (own_w hw 62 rfl)) Via.refl F36 F37 (Or.inl (own_w hw 63 rfl)) (own_w hw 2 rfl) (ty := (.object zs2)) (by decide) rfl rfl P7 (hb hby d7_82) rfl (fun T38 h38 Y38 K38 F38 => ?_)
  refine own_aloadN Y38 hx (pc' := 86) (hb hby d7_85) rfl rfl rfl ?_
  refine own_aconstNull Y38 hx (pc' := 87) (hb hby d7_86) rfl ?_
  have F39 := (own_F (v := .null) (own_F (v := .null) F34 K35 (own_nr (sl_18 hw) own_nin0)) K38 (own_nr (sl_19 hw) own_nin0))
  have F40 := (own_E F37 K38)
  refine own_putF Y38 hx (pc' := 90) hZ hown (Or.inr (own_w hw 96 rfl)) Via.refl F39 F40 (Or.inl (own_w hw 94 rfl)) (own_w hw 2 rfl) (ty := (.object zs2)) (by decide) rfl rfl P7 (hb hby d7_87) rfl (fun T41 h41 Y41 K41 F41 => ?_)
  refine own_aloadN Y41 hx (pc' := 91) (hb hby d7_90) rfl rfl rfl ?_
  refine own_aconstNull Y41 hx (pc' := 92) (hb hby d7_91) rfl ?_
  have F42 := (own_F (v := .null) (own_F (v := .null) (own_F (v := .null) (own_F (v := .null) (own_F (v := .null) (own_F (v := .null) (own_F (v := .null) (own_F (v := .null) F8 K12 (own_nl D7 own_nin0)) K17 (own_nl D7 own_nin0)) K22 (own_nl D7 own_nin0)) K25 (own_nr (sl_20 hw) own_nin0)) K28 (own_nr (sl_21 hw) own_nin0)) K35 (own_nr (sl_22 hw) own_nin0)) K38 (own_nr (sl_23 hw) own_nin0)) K41 (own_nr (sl_24 hw) own_nin0))
  have F43 := (own_E F40 K41)
  refine own_putF Y41 hx (pc' := 95) hZ hown (Or.inr (own_w hw 66 rfl)) Via.refl F42 F43 (Or.inl (own_w hw 67 rfl)) (own_w hw 2 rfl) (ty := (.object zs2)) (by decide) rfl rfl P7 (hb hby d7_92) rfl (fun T44 h44 Y44 K44 F44 => ?_)
  refine own_aloadN Y44 hx (pc' := 96) (hb hby d7_95) rfl rfl rfl ?_
  refine own_iloadN Y44 hx (pc' := 97) (hb hby d7_96) rfl rfl ?_
  refine own_aload Y44 hx (pc' := 99) (hb hby d7_97) rfl rfl rfl ?_
  refine own_aload Y44 hx (pc' := 101) (hb hby d7_99) rfl rfl rfl ?_
  refine own_iloadN Y44 hx (pc' := 102) (hb hby d7_101) rfl rfl ?_
  refine own_iconst Y44 hx (pc' := 103) (x := (1 : Int32)) (hb hby d7_102) rfl (by decide) ?_
  refine own_iadd Y44 hx (pc' := 104) (hb hby d7_103) rfl (z := (2 : Int32)) (by decide) ?_
  refine own_aload Y44 hx (pc' := 106) (hb hby d7_104) rfl rfl rfl ?_
  have F46 := (own_E (own_E (own_E (own_E (own_E (own_E (own_E (own_E (own_E (own_E (own_E P0 K2) K6) K12) K17) K22) K25) K28) K35) K38) K41) K44)
  have F47 := (own_St (own_St (own_St (own_St F32 K35 (own_allS (own_plain F30) own_all0)) K38 (own_allS (own_plain F37) own_all0)) K41 (own_allS (own_plain F40) own_all0)) K44 (own_allS (own_plain F43) own_all0))
  have D48 : a2 ≠ b2 := (Nat.ne_of_lt (Nat.lt_of_lt_of_le P0.lt le2))
  have F49 := (own_F (v := .null) (own_F (v := .null) (own_F (v := .null) (own_F (v := .null) (own_F (v := .null) (own_F (v := .null) (own_F (v := .null) (own_F (v := .null) (own_F (v := .null) (own_F (v := .null) (own_F (v := .null) P11 K2 own_nin0) K6 (own_nl D48 own_nin0)) K12 (own_nl D48 own_nin0)) K17 (own_nl D48 own_nin0)) K22 (own_nl D48 own_nin0)) K25 (own_nl P12 own_nin0)) K28 (own_nl P12 own_nin0)) K35 (own_nl P12 own_nin0)) K38 (own_nl P12 own_nin0)) K41 (own_nl P12 own_nin0)) K44 (own_nl P12 own_nin0))
  have F50 := (own_F (v := .null) (own_F (v := .null) (own_F (v := .null) (own_F (v := .null) (own_F (v := .null) (own_F (v := .null) (own_F (v := .null) (own_F (v := .null) (own_F (v := .null) (own_F (v := .null) (own_F (v := .null) P13 K2 own_nin0) K6 (own_nl D48 own_nin0)) K12 (own_nl D48 own_nin0)) K17 (own_nl D48 own_nin0)) K22 (own_nl D48 own_nin0)) K25 (own_nl P12 own_nin0)) K28 (own_nl P12 own_nin0)) K35 (own_nl P12 own_nin0)) K38 (own_nl P12 own_nin0)) K41 (own_nl P12 own_nin0)) K44 (own_nl P12 own_nin0))
  have F51 := (own_F (v := .null) (own_F (v := .null) (own_F (v := .null) (own_F (v := .null) (own_F (v := .null) (own_F (v := .null) (own_F (v := .null) (own_F (v := .null) (own_F (v := .null) (own_F (v := .null) (own_F (v := .null) P15 K2 own_nin0) K6 (own_nl D48 own_nin0)) K12 (own_nl D48 own_nin0)) K17 (own_nl D48 own_nin0)) K22 (own_nl D48 own_nin0)) K25 (own_nl P12 own_nin0)) K28 (own_nl P12 own_nin0)) K35 (own_nl P12 own_nin0)) K38 (own_nl P12 own_nin0)) K41 (own_nl P12 own_nin0)) K44 (own_nl P12 own_nin0))
  have F52 := (own_F (v := .null) (own_F (v := .null) (own_F (v := .null) (own_F (v := .null) (own_F (v := .null) (own_F (v := .null) (own_F (v := .null) (own_F (v := .null) (own_F (v := .null) (own_F (v := .null) (own_F (v := .null) P16 K2 own_nin0) K6 (own_nl D48 own_nin0)) K12 (own_nl D48 own_nin0)) K17 (own_nl D48 own_nin0)) K22 (own_nl D48 own_nin0)) K25 (own_nl P12 own_nin0)) K28 (own_nl P12 own_nin0)) K35 (own_nl P12 own_nin0)) K38 (own_nl P12 own_nin0)) K41 (own_nl P12 own_nin0)) K44 (own_nl P12 own_nin0))
  have F53 := (own_F (v := (.ref a5)) (own_F (v := (.ref a5)) (own_F (v := (.ref a5)) (own_F (v := (.ref a5)) (own_F (v := (.ref a5)) (own_F (v := (.ref a5)) (own_F (v := (.ref a5)) (own_F (v := (.ref a5)) (own_F (v := (.ref a5)) (own_F (v := (.ref a5)) (own_F (v := (.ref a5)) P17 K2 own_nin0) K6 (own_nl D48 own_nin0)) K12 (own_nl D48 own_nin0)) K17 (own_nl D48 own_nin0)) K22 (own_nl D48 own_nin0)) K25 (own_nl P12 own_nin0)) K28 (own_nl P12 own_nin0)) K35 (own_nl P12 own_nin0)) K38 (own_nl P12 own_nin0)) K41 (own_nl P12 own_nin0)) K44 (own_nl P12 own_nin0))
  have F54 := (own_F (v := .null) (own_F (v := .null) (own_F (v := .null) (own_F (v := .null) (own_F (v := .null) (own_F (v := .null) (own_F (v := .null) (own_F (v := .null) (own_F (v := .null) (own_F (v := .null) (own_F (v := .null) P18 K2 own_nin0) K6 (own_nl D48 own_nin0)) K12 (own_nl D48 own_nin0)) K17 (own_nl D48 own_nin0)) K22 (own_nl D48 own_nin0)) K25 (own_nl P12 own_nin0)) K28 (own_nl P12 own_nin0)) K35 (own_nl P12 own_nin0)) K38 (own_nl P12 own_nin0)) K41 (own_nl P12 own_nin0)) K44 (own_nl P12 own_nin0))
  have F55 := (own_F (v := .null) (own_F (v := .null) (own_F (v := .null) (own_F (v := .null) (own_F (v := .null) (own_F (v := .null) (own_F (v := .null) (own_F (v := .null) (own_F (v := .null) (own_F (v := .null) (own_F (v := .null) P19 K2 own_nin0) K6 (own_nl D48 own_nin0)) K12 (own_nl D48 own_nin0)) K17 (own_nl D48 own_nin0)) K22 (own_nl D48 own_nin0)) K25 (own_nl P12 own_nin0)) K28 (own_nl P12 own_nin0)) K35 (own_nl P12 own_nin0)) K38 (own_nl P12 own_nin0)) K41 (own_nl P12 own_nin0)) K44 (own_nl P12 own_nin0))
  refine own_virtual Y44 hx (pc' := 109) (W := 0) (cl' := 1) (sl' := 11) (as' := [(.int (1 : Int32)), .null, .null, (.int (2 : Int32)), (.ref b2)]) (S' := []) (a := a2) hZ hown (own_w hw 97 rfl) (own_w hw 98 rfl) (notFace_of_selects (args := #[]) (mvT hZ (own_w hw 100 rfl))) (own_w hw 100 rfl) (own_w hw 99 rfl) (own_w hw 3 rfl) (own_w hw 101 rfl) (by decide) F46 (rm12_52 l Z a0 hw [] a2 b2 a4 a5 h44 n0 (own_sz Y44) F46 F47 F49 F50 P14 F51 F52 F53 F54 F55) (hb hby d7_106) rfl (by rw [hml]; rfl) rfl (lenOf pd__ILjava_lang_Object_Ljava_lang_Object_ILcom_example_napkintree_napkintree_balancing_MultiwayTree_Node__V rfl) rfl (by decide) (by decide) rfl rfl (by decide) (by decide) P12_52_sz (own_fixR (S2 := []) rfl (fun T45 h45 Y45 R45 => ?_))
  obtain ⟨K45, G45_0, G45_1, G45_2, G45_3, G45_4, G45_5⟩ := R45
  refine own_aloadN Y45 hx (pc' := 110) (hb hby d7_109) rfl rfl rfl ?_
  refine own_aloadN Y45 hx (pc' := 111) (hb hby d7_110) rfl rfl rfl ?_
  have F56 := (own_St (own_St (own_St (own_St (own_St (own_St (own_St (own_St (own_St (own_St (own_St (own_St P20 K2 own_all0) K6 (own_allS (own_plain E2) own_all0)) K12 (own_allS (own_plain F11) own_all0)) K17 (own_allS (own_plain F16) own_all0)) K22 (own_allS (own_plain F21) own_all0)) K25 (own_allS (own_plain F24) own_all0)) K28 (own_allS (own_plain F27) own_all0)) K35 (own_allS (own_plain F30) own_all0)) K38 (own_allS (own_plain F37) own_all0)) K41 (own_allS (own_plain F40) own_all0)) K44 (own_allS (own_plain F43) own_all0)) K45 (own_allS (own_plain F46) (own_allS (own_plain F46) (own_allS (own_plain F46) (own_allS (own_plain F46) (own_allS (own_plain F46) (own_allS (own_plain F46) own_all0)))))))
  refine own_getS Y45 hx (pc' := 114) (v := (.ref a6)) hZ hown (host := "") (Or.inl (own_w hw 126 rfl)) Via.refl F56 (hb hby d7_111) rfl (fun T57 Y57 => ?_)
  have F59 := (own_E (own_E (own_E (own_E (own_E (own_E (own_E (own_E (own_E (own_E (own_E (own_E P21 K2) K6) K12) K17) K22) K25) K28) K35) K38) K41) K44) K45)
  have D60 : a1 ≠ b2 := (Nat.ne_of_lt (Nat.lt_of_lt_of_le P21.lt le2))
  have F61 := (own_E (own_E (own_E (own_E (own_E P21 K2) K6) K12) K17) K22)
  have D62 : a1 ≠ a3 := (ne_exa F61 F24 (by decide))
  have F63 := (own_E (own_E (own_E (own_E (own_E (own_E F61 K25) K28) K35) K38) K41) K44)
  have D64 : a1 ≠ a2 := (ne_exa F63 F46 (by decide))
  have F65 := (own_F (v := (.int (0 : Int32))) (own_F (v := (.int (0 : Int32))) (own_F (v := (.int (0 : Int32))) (own_F (v := (.int (0 : Int32))) (own_F (v := (.int (0 : Int32))) (own_F (v := (.int (0 : Int32))) (own_F (v := (.int (0 : Int32))) (own_F (v := (.int (0 : Int32))) (own_F (v := (.int (0 : Int32))) (own_F (v := (.int (0 : Int32))) (own_F (v := (.int (0 : Int32))) (own_F (v := (.int (0 : Int32))) P22 K2 own_nin0) K6 (own_nl D60 own_nin0)) K12 (own_nl D60 own_nin0)) K17 (own_nl D60 own_nin0)) K22 (own_nl D60 own_nin0)) K25 (own_nl D62 own_nin0)) K28 (own_nl D62 own_nin0)) K35 (own_nl D62 own_nin0)) K38 (own_nl D62 own_nin0)) K41 (own_nl D62 own_nin0)) K44 (own_nl D62 own_nin0)) K45 (own_nl D64 (own_nl D64 (own_nl D64 (own_nl D64 (own_nl D64 (own_nl D64 own_nin0)))))))
  have F66 := (own_St (own_St (own_St (own_St (own_St (own_St (own_St (own_St (own_St (own_St (own_St (own_St P23 K2 own_all0) K6 (own_allS (own_plain E2) own_all0)) K12 (own_allS (own_plain F11) own_all0)) K17 (own_allS (own_plain F16) own_all0)) K22 (own_allS (own_plain F21) own_all0)) K25 (own_allS (own_plain F24) own_all0)) K28 (own_allS (own_plain F27) own_all0)) K35 (own_allS (own_plain F30) own_all0)) K38 (own_allS (own_plain F37) own_all0)) K41 (own_allS (own_plain F40) own_all0)) K44 (own_allS (own_plain F43) own_all0)) K45 (own_allS (own_plain F46) (own_allS (own_plain F46) (own_allS (own_plain F46) (own_allS (own_plain F46) (own_allS (own_plain F46) (own_allS (own_plain F46) own_all0)))))))
  have F67 := (own_E (own_E (own_E (own_E (own_E (own_E (own_E (own_E (own_E (own_E (own_E (own_E P24 K2) K6) K12) K17) K22) K25) K28) K35) K38) K41) K44) K45)
  have D68 : a6 ≠ b2 := (Nat.ne_of_lt (Nat.lt_of_lt_of_le P24.lt le2))
  have F69 := (own_E (own_E (own_E (own_E (own_E P24 K2) K6) K12) K17) K22)
  have D70 : a6 ≠ a3 := (ne_exa F69 F24 (by decide))
  have F71 := (own_E (own_E (own_E (own_E (own_E (own_E F69 K25) K28) K35) K38) K41) K44)
  have D72 : a6 ≠ a2 := (ne_exa F71 F46 (by decide))
  have F73 := (own_F (v := (.int (1 : Int32))) (own_F (v := (.int (1 : Int32))) (own_F (v := (.int (1 : Int32))) (own_F (v := (.int (1 : Int32))) (own_F (v := (.int (1 : Int32))) (own_F (v := (.int (1 : Int32))) (own_F (v := (.int (1 : Int32))) (own_F (v := (.int (1 : Int32))) (own_F (v := (.int (1 : Int32))) (own_F (v := (.int (1 : Int32))) (own_F (v := (.int (1 : Int32))) (own_F (v := (.int (1 : Int32))) P25 K2 own_nin0) K6 (own_nl D68 own_nin0)) K12 (own_nl D68 own_nin0)) K17 (own_nl D68 own_nin0)) K22 (own_nl D68 own_nin0)) K25 (own_nl D70 own_nin0)) K28 (own_nl D70 own_nin0)) K35 (own_nl D70 own_nin0)) K38 (own_nl D70 own_nin0)) K41 (own_nl D70 own_nin0)) K44 (own_nl D70 own_nin0)) K45 (own_nl D72 (own_nl D72 (own_nl D72 (own_nl D72 (own_nl D72 (own_nl D72 own_nin0)))))))
  have F74 := (own_F (v := (.int (2 : Int32))) (own_F (v := (.int (2 : Int32))) (own_F (v := (.int (2 : Int32))) (own_F (v := (.int (2 : Int32))) (own_F (v := (.int (2 : Int32))) (own_F (v := (.int (2 : Int32))) (own_F (v := (.int (2 : Int32))) (own_F (v := (.int (2 : Int32))) (own_F (v := (.int (2 : Int32))) (own_F (v := (.int (2 : Int32))) (own_F (v := (.int (2 : Int32))) (own_F (v := (.int (2 : Int32))) P26 K2 own_nin0) K6 (own_nl D7 own_nin0)) K12 (own_nl D7 own_nin0)) K17 (own_nl D7 own_nin0)) K22 (own_nl D7 own_nin0)) K25 (own_nr (sl_94 hw) own_nin0)) K28 (own_nr (sl_95 hw) own_nin0)) K35 (own_nr (sl_96 hw) own_nin0)) K38 (own_nr (sl_97 hw) own_nin0)) K41 (own_nr (sl_98 hw) own_nin0)) K44 (own_nr (sl_99 hw) own_nin0)) K45 (own_nl (Ne.symm P12) (own_nl (Ne.symm P12) (own_nl (Ne.symm P12) (own_nl (Ne.symm P12) (own_nl (Ne.symm P12) (own_nl (Ne.symm P12) own_nin0)))))))
  have F75 := (own_E (own_E F43 K44) K45)
  refine own_private Y57 hx (pc' := 117) (W := 0) (cl' := 1) (sl' := 11) (as' := [(.ref a3), (.ref a6)]) (S' := []) (a := a1) hZ hown (own_w hw 129 rfl) (own_w hw 130 rfl) (own_selP hZ (Cond.sameMethod_class (own_w hw 134 rfl)) (own_w hw 131 rfl) (own_w hw 130 rfl) (by decide)) (own_w hw 131 rfl) (own_w hw 19 rfl) (own_w hw 132 rfl) (by decide) F59 (rm17_26 l Z a0 hw [] a1 a3 a6 h45 n0 (own_sz Y57) F59 F65 F66 F67 F73 F74 F75 P7) (hb hby d7_114) rfl (by rw [hml]; rfl) rfl (lenOf pd__Lcom_example_napkintree_napkintree_balancing_MultiwayTree_Node_Lcom_example_napkintree_napkintree_balancing_NodeMark__V rfl) rfl (by decide) (by decide) rfl rfl (by decide) (by decide) P17_26_sz (own_fixR (S2 := []) rfl (fun T58 h58 Y58 R58 => ?_))
  obtain ⟨K58, G58_0⟩ := R58
  refine own_aloadN Y58 hx (pc' := 118) (hb hby d7_117) rfl rfl rfl ?_
  refine own_aload Y58 hx (pc' := 120) (hb hby d7_118) rfl rfl rfl ?_
  have F76 := (own_St F56 K58 (own_allS (own_plain F75) own_all0))
  refine own_getS Y58 hx (pc' := 123) (v := (.ref a6)) hZ hown (host := "") (Or.inl (own_w hw 126 rfl)) Via.refl F76 (hb hby d7_120) rfl (fun T77 Y77 => ?_)
  have F79 := (own_E F59 K58)
  have F80 := (own_F (v := (.int (0 : Int32))) F65 K58 (own_nl D62 own_nin0))
  have F81 := (own_St F66 K58 (own_allS (own_plain F75) own_all0))
  have F82 := (own_E F67 K58)
  have F83 := (own_F (v := (.int (1 : Int32))) F73 K58 (own_nl D70 own_nin0))
  have F84 := (own_F (v := (.int (0 : Int32))) (own_F (v := (.int (0 : Int32))) (own_F (v := (.int (0 : Int32))) (own_F (v := (.int (0 : Int32))) (own_F (v := (.int (0 : Int32))) (own_F (v := (.int (0 : Int32))) (own_F (v := (.int (0 : Int32))) (own_F (v := (.int (0 : Int32))) (own_F (v := (.int (0 : Int32))) (own_F (v := (.int (0 : Int32))) (own_F (v := (.int (0 : Int32))) (own_F (v := (.int (0 : Int32))) (D2 (Or.inl (own_w hw 153 rfl)) (ty := .int) (by decide)) K6 (own_nr (sl_100 hw) own_nin0)) K12 (own_nr (sl_101 hw) own_nin0)) K17 (own_nr (sl_102 hw) own_nin0)) K22 (own_nr (sl_103 hw) own_nin0)) K25 (own_nl (Ne.symm D7) own_nin0)) K28 (own_nl (Ne.symm D7) own_nin0)) K35 (own_nl (Ne.symm D7) own_nin0)) K38 (own_nl (Ne.symm D7) own_nin0)) K41 (own_nl (Ne.symm D7) own_nin0)) K44 (own_nl (Ne.symm D7) own_nin0)) K45 (own_nl (Ne.symm D48) (own_nl (Ne.symm D48) (own_nl (Ne.symm D48) (own_nl (Ne.symm D48) (own_nl (Ne.symm D48) (own_nl (Ne.symm D48) own_nin0))))))) K58 (own_nl (Ne.symm D7) own_nin0))
  have F85 := (own_E (own_E (own_E (own_E (own_E (own_E (own_E (own_E (own_E F21 K22) K25) K28) K35) K38) K41) K44) K45) K58)
  refine own_private Y77 hx (pc' := 126) (W := 0) (cl' := 1) (sl' := 11) (as' := [(.ref b2), (.ref a6)]) (S' := []) (a := a1) hZ hown (own_w hw 129 rfl) (own_w hw 130 rfl) (own_selP hZ (Cond.sameMethod_class (own_w hw 134 rfl)) (own_w hw 131 rfl) (own_w hw 130 rfl) (by decide)) (own_w hw 131 rfl) (own_w hw 19 rfl) (own_w hw 132 rfl) (by decide) F79 (rm17_16 l Z a0 hw [] a1 b2 a6 h58 n0 (own_sz Y77) F79 F80 F81 F82 F83 F84 F85 (Nat.le_trans Z0 le2)) (hb hby d7_123) rfl (by rw [hml]; rfl) rfl (lenOf pd__Lcom_example_napkintree_napkintree_balancing_MultiwayTree_Node_Lcom_example_napkintree_napkintree_balancing_NodeMark__V rfl) rfl (by decide) (by decide) rfl rfl (by decide) (by decide) P17_16_sz (own_fixR (S2 := []) rfl (fun T78 h78 Y78 R78 => ?_))
  obtain ⟨K78, G78_0⟩ := R78
  refine own_aloadN Y78 hx (pc' := 127) (hb hby d7_126) rfl rfl rfl ?_
  refine own_aloadN Y78 hx (pc' := 128) (hb hby d7_127) rfl rfl rfl ?_
  have F86 := (own_St (own_St (own_St (own_St (own_St (own_St (own_St (own_St (own_St (own_St (own_St (own_St (own_St (own_St P27 K2 own_all0) K6 (own_allS (own_plain E2) own_all0)) K12 (own_allS (own_plain F11) own_all0)) K17 (own_allS (own_plain F16) own_all0)) K22 (own_allS (own_plain F21) own_all0)) K25 (own_allS (own_plain F24) own_all0)) K28 (own_allS (own_plain F27) own_all0)) K35 (own_allS (own_plain F30) own_all0)) K38 (own_allS (own_plain F37) own_all0)) K41 (own_allS (own_plain F40) own_all0)) K44 (own_allS (own_plain F43) own_all0)) K45 (own_allS (own_plain F46) (own_allS (own_plain F46) (own_allS (own_plain F46) (own_allS (own_plain F46) (own_allS (own_plain F46) (own_allS (own_plain F46) own_all0))))))) K58 (own_allS (own_plain F75) own_all0)) K78 (own_allS (own_plain F85) own_all0))
  refine own_getS Y78 hx (pc' := 131) (v := (.ref a7)) hZ hown (host := "") (Or.inl (own_w hw 154 rfl)) Via.refl F86 (hb hby d7_128) rfl (fun T87 Y87 => ?_)
  have F89 := (own_E F79 K78)
  have F90 := (own_F (v := (.int (0 : Int32))) F80 K78 (own_nl D60 own_nin0))
  have F91 := (own_St F81 K78 (own_allS (own_plain F85) own_all0))
  have F92 := (own_E (own_E (own_E (own_E (own_E (own_E (own_E (own_E (own_E (own_E (own_E (own_E (own_E (own_E P28 K2) K6) K12) K17) K22) K25) K28) K35) K38) K41) K44) K45) K58) K78)
  have D93 : a7 ≠ b2 := (Nat.ne_of_lt (Nat.lt_of_lt_of_le P28.lt le2))
  have F94 := (own_E (own_E (own_E (own_E (own_E P28 K2) K6) K12) K17) K22)
  have D95 : a7 ≠ a3 := (ne_exa F94 F24 (by decide))
  have F96 := (own_E (own_E (own_E (own_E (own_E (own_E F94 K25) K28) K35) K38) K41) K44)
  have D97 : a7 ≠ a2 := (ne_exa F96 F46 (by decide))
  have F98 := (own_F (v := (.int (0 : Int32))) (own_F (v := (.int (0 : Int32))) (own_F (v := (.int (0 : Int32))) (own_F (v := (.int (0 : Int32))) (own_F (v := (.int (0 : Int32))) (own_F (v := (.int (0 : Int32))) (own_F (v := (.int (0 : Int32))) (own_F (v := (.int (0 : Int32))) (own_F (v := (.int (0 : Int32))) (own_F (v := (.int (0 : Int32))) (own_F (v := (.int (0 : Int32))) (own_F (v := (.int (0 : Int32))) (own_F (v := (.int (0 : Int32))) (own_F (v := (.int (0 : Int32))) P29 K2 own_nin0) K6 (own_nl D93 own_nin0)) K12 (own_nl D93 own_nin0)) K17 (own_nl D93 own_nin0)) K22 (own_nl D93 own_nin0)) K25 (own_nl D95 own_nin0)) K28 (own_nl D95 own_nin0)) K35 (own_nl D95 own_nin0)) K38 (own_nl D95 own_nin0)) K41 (own_nl D95 own_nin0)) K44 (own_nl D95 own_nin0)) K45 (own_nl D97 (own_nl D97 (own_nl D97 (own_nl D97 (own_nl D97 (own_nl D97 own_nin0))))))) K58 (own_nl D95 own_nin0)) K78 (own_nl D93 own_nin0))
  have F99 := (own_F (v := (.int (3 : Int32))) (own_F (v := (.int (3 : Int32))) (own_F (v := (.int (3 : Int32))) (own_F (v := (.int (3 : Int32))) (own_F (v := (.int (3 : Int32))) (own_F (v := (.int (3 : Int32))) (own_F (v := (.int (3 : Int32))) (own_F (v := (.int (3 : Int32))) (own_F (v := (.int (3 : Int32))) (own_F (v := (.int (3 : Int32))) (own_F (v := (.int (3 : Int32))) (own_F (v := (.int (3 : Int32))) (own_F (v := (.int (3 : Int32))) (own_F (v := (.int (3 : Int32))) P30 K2 own_nin0) K6 (own_nl D48 own_nin0)) K12 (own_nl D48 own_nin0)) K17 (own_nl D48 own_nin0)) K22 (own_nl D48 own_nin0)) K25 (own_nl P12 own_nin0)) K28 (own_nl P12 own_nin0)) K35 (own_nl P12 own_nin0)) K38 (own_nl P12 own_nin0)) K41 (own_nl P12 own_nin0)) K44 (own_nl P12 own_nin0)) K45 (own_nr (sl_97 hw) (own_nr (sl_99 hw) (own_nr (sl_96 hw) (own_nr (sl_98 hw) (own_nr (sl_95 hw) (own_nr (sl_94 hw) own_nin0))))))) K58 (own_nl P12 own_nin0)) K78 (own_nl D48 own_nin0))
  have F100 := (own_E (own_E (own_E F46 K45) K58) K78)
  refine own_private Y87 hx (pc' := 134) (W := 0) (cl' := 1) (sl' := 11) (as' := [(.ref a2), (.ref a7)]) (S' := []) (a := a1) hZ hown (own_w hw 129 rfl) (own_w hw 130 rfl) (own_selP hZ (Cond.sameMethod_class (own_w hw 134 rfl)) (own_w hw 131 rfl) (own_w hw 130 rfl) (by decide)) (own_w hw 131 rfl) (own_w hw 19 rfl) (own_w hw 132 rfl) (by decide) F89 (rm17_27 l Z a0 hw [] a1 a2 a7 h78 n0 (own_sz Y87) F89 F90 F91 F92 F98 F99 F100 P14) (hb hby d7_131) rfl (by rw [hml]; rfl) rfl (lenOf pd__Lcom_example_napkintree_napkintree_balancing_MultiwayTree_Node_Lcom_example_napkintree_napkintree_balancing_NodeMark__V rfl) rfl (by decide) (by decide) rfl rfl (by decide) (by decide) P17_27_sz (own_fixR (S2 := []) rfl (fun T88 h88 Y88 R88 => ?_))
  obtain ⟨K88, G88_0⟩ := R88
  have KC101 : own_Kp h0 h88 [(a3, Jvm.RoadKit.slotOf Z zs0 "child2" zs16), (a3, Jvm.RoadKit.slotOf Z zs0 "child3" zs16), (a3, Jvm.RoadKit.slotOf Z zs0 "key1" zs1), (a3, Jvm.RoadKit.slotOf Z zs0 "key2" zs1), (a3, Jvm.RoadKit.slotOf Z zs0 "value1" zs1), (a3, Jvm.RoadKit.slotOf Z zs0 "value2" zs1), (a2, Jvm.RoadKit.slotOf Z zs0 "key2" zs1), (a2, Jvm.RoadKit.slotOf Z zs0 "value2" zs1), (a2, Jvm.RoadKit.slotOf Z zs0 "key1" zs1), (a2, Jvm.RoadKit.slotOf Z zs0 "value1" zs1), (a2, Jvm.RoadKit.slotOf Z zs0 "child3" zs16), (a2, Jvm.RoadKit.slotOf Z zs0 "child2" zs16), (a3, Jvm.RoadKit.slotOf Z zs0 "mark" "I"), (a2, Jvm.RoadKit.slotOf Z zs0 "mark" "I")] := ((((((((((((((((own_Kp.refl h0 [(a3, Jvm.RoadKit.slotOf Z zs0 "child2" zs16), (a3, Jvm.RoadKit.slotOf Z zs0 "child3" zs16), (a3, Jvm.RoadKit.slotOf Z zs0 "key1" zs1), (a3, Jvm.RoadKit.slotOf Z zs0 "key2" zs1), (a3, Jvm.RoadKit.slotOf Z zs0 "value1" zs1), (a3, Jvm.RoadKit.slotOf Z zs0 "value2" zs1), (a2, Jvm.RoadKit.slotOf Z zs0 "key2" zs1), (a2, Jvm.RoadKit.slotOf Z zs0 "value2" zs1), (a2, Jvm.RoadKit.slotOf Z zs0 "key1" zs1), (a2, Jvm.RoadKit.slotOf Z zs0 "value1" zs1), (a2, Jvm.RoadKit.slotOf Z zs0 "child3" zs16), (a2, Jvm.RoadKit.slotOf Z zs0 "child2" zs16), (a3, Jvm.RoadKit.slotOf Z zs0 "mark" "I"), (a2, Jvm.RoadKit.slotOf Z zs0 "mark" "I")]).trans K2 own_all0).trans K6 (own_allS (Or.inr le2) own_all0)).trans K12 (own_allS (Or.inr le2) own_all0)).trans K17 (own_allS (Or.inr le2) own_all0)).trans K22 (own_allS (Or.inr le2) own_all0)).trans K25 (own_allS (Or.inl (List.mem_of_getElem? (i := 0) rfl)) own_all0)).trans K28 (own_allS (Or.inl (List.mem_of_getElem? (i := 1) rfl)) own_all0)).trans K35 (own_allS (Or.inl (List.mem_of_getElem? (i := 2) rfl)) own_all0)).trans K38 (own_allS (Or.inl (List.mem_of_getElem? (i := 3) rfl)) own_all0)).trans K41 (own_allS (Or.inl (List.mem_of_getElem? (i := 4) rfl)) own_all0)).trans K44 (own_allS (Or.inl (List.mem_of_getElem? (i := 5) rfl)) own_all0)).trans K45 (own_allS (Or.inl (List.mem_of_getElem? (i := 6) rfl)) (own_allS (Or.inl (List.mem_of_getElem? (i := 7) rfl)) (own_allS (Or.inl (List.mem_of_getElem? (i := 8) rfl)) (own_allS (Or.inl (List.mem_of_getElem? (i := 9) rfl)) (own_allS (Or.inl (List.mem_of_getElem? (i := 10) rfl)) (own_allS (Or.inl (List.mem_of_getElem? (i := 11) rfl)) own_all0))))))).trans K58 (own_allS (Or.inl (List.mem_of_getElem? (i := 12) rfl)) own_all0)).trans K78 (own_allS (Or.inr le2) own_all0)).trans K88 (own_allS (Or.inl (List.mem_of_getElem? (i := 13) rfl)) own_all0))
  have F102 := (own_F (v := .null) (own_F (v := .null) (own_F (v := .null) (own_F (v := .null) (own_F (v := .null) (own_F (v := .null) (own_F (v := .null) (own_F (v := .null) (own_F (v := .null) F25 K28 (own_nr (sl_77 hw) own_nin0)) K35 (own_nr (sl_61 hw) own_nin0)) K38 (own_nr (sl_59 hw) own_nin0)) K41 (own_nr (sl_62 hw) own_nin0)) K44 (own_nr (sl_60 hw) own_nin0)) K45 (own_nl (Ne.symm P12) (own_nl (Ne.symm P12) (own_nl (Ne.symm P12) (own_nl (Ne.symm P12) (own_nl (Ne.symm P12) (own_nl (Ne.symm P12) own_nin0))))))) K58 (own_nr (sl_104 hw) own_nin0)) K78 (own_nl D7 own_nin0)) K88 (own_nl (Ne.symm P12) own_nin0))
  have F103 := (own_F (v := .null) (own_F (v := .null) (own_F (v := .null) (own_F (v := .null) (own_F (v := .null) (own_F (v := .null) (own_F (v := .null) (own_F (v := .null) F28 K35 (own_nr (sl_68 hw) own_nin0)) K38 (own_nr (sl_66 hw) own_nin0)) K41 (own_nr (sl_69 hw) own_nin0)) K44 (own_nr (sl_67 hw) own_nin0)) K45 (own_nl (Ne.symm P12) (own_nl (Ne.symm P12) (own_nl (Ne.symm P12) (own_nl (Ne.symm P12) (own_nl (Ne.symm P12) (own_nl (Ne.symm P12) own_nin0))))))) K58 (own_nr (sl_105 hw) own_nin0)) K78 (own_nl D7 own_nin0)) K88 (own_nl (Ne.symm P12) own_nin0))
  have F104 := (own_F (v := .null) (own_F (v := .null) (own_F (v := .null) (own_F (v := .null) (own_F (v := .null) (own_F (v := .null) (own_F (v := .null) F35 K38 (own_nr (sl_32 hw) own_nin0)) K41 (own_nr (sl_48 hw) own_nin0)) K44 (own_nr (sl_33 hw) own_nin0)) K45 (own_nl (Ne.symm P12) (own_nl (Ne.symm P12) (own_nl (Ne.symm P12) (own_nl (Ne.symm P12) (own_nl (Ne.symm P12) (own_nl (Ne.symm P12) own_nin0))))))) K58 (own_nr (sl_106 hw) own_nin0)) K78 (own_nl D7 own_nin0)) K88 (own_nl (Ne.symm P12) own_nin0))
  have F105 := (own_F (v := .null) (own_F (v := .null) (own_F (v := .null) (own_F (v := .null) (own_F (v := .null) (own_F (v := .null) F38 K41 (own_nr (sl_43 hw) own_nin0)) K44 (own_nr (sl_42 hw) own_nin0)) K45 (own_nl (Ne.symm P12) (own_nl (Ne.symm P12) (own_nl (Ne.symm P12) (own_nl (Ne.symm P12) (own_nl (Ne.symm P12) (own_nl (Ne.symm P12) own_nin0))))))) K58 (own_nr (sl_107 hw) own_nin0)) K78 (own_nl D7 own_nin0)) K88 (own_nl (Ne.symm P12) own_nin0))
  have F106 := (own_F (v := .null) (own_F (v := .null) (own_F (v := .null) (own_F (v := .null) (own_F (v := .null) F41 K44 (own_nr (sl_38 hw) own_nin0)) K45 (own_nl (Ne.symm P12) (own_nl (Ne.symm P12) (own_nl (Ne.symm P12) (own_nl (Ne.symm P12) (own_nl (Ne.symm P12) (own_nl (Ne.symm P12) own_nin0))))))) K58 (own_nr (sl_108 hw) own_nin0)) K78 (own_nl D7 own_nin0)) K88 (own_nl (Ne.symm P12) own_nin0))
  have F107 := (own_F (v := .null) (own_F (v := .null) (own_F (v := .null) (own_F (v := .null) F44 K45 (own_nl (Ne.symm P12) (own_nl (Ne.symm P12) (own_nl (Ne.symm P12) (own_nl (Ne.symm P12) (own_nl (Ne.symm P12) (own_nl (Ne.symm P12) own_nin0))))))) K58 (own_nr (sl_109 hw) own_nin0)) K78 (own_nl D7 own_nin0)) K88 (own_nl (Ne.symm P12) own_nin0))
  have F108 := (own_F (v := .null) (own_F (v := .null) (own_F (v := .null) G45_0 K58 (own_nl P12 own_nin0)) K78 (own_nl D48 own_nin0)) K88 (own_nr (sl_107 hw) own_nin0))
  have F109 := (own_F (v := .null) (own_F (v := .null) (own_F (v := .null) G45_1 K58 (own_nl P12 own_nin0)) K78 (own_nl D48 own_nin0)) K88 (own_nr (sl_109 hw) own_nin0))
  have F110 := (own_F (v := (.ref a4)) (own_F (v := (.ref a4)) (own_F (v := (.ref a4)) G45_2 K58 (own_nl P12 own_nin0)) K78 (own_nl D48 own_nin0)) K88 (own_nr (sl_106 hw) own_nin0))
  have F111 := (own_F (v := .null) (own_F (v := .null) (own_F (v := .null) G45_3 K58 (own_nl P12 own_nin0)) K78 (own_nl D48 own_nin0)) K88 (own_nr (sl_108 hw) own_nin0))
  have F112 := (own_F (v := .null) (own_F (v := .null) (own_F (v := .null) G45_4 K58 (own_nl P12 own_nin0)) K78 (own_nl D48 own_nin0)) K88 (own_nr (sl_105 hw) own_nin0))
  have F113 := (own_F (v := (.ref b2)) (own_F (v := (.ref b2)) (own_F (v := (.ref b2)) G45_5 K58 (own_nl P12 own_nin0)) K78 (own_nl D48 own_nin0)) K88 (own_nr (sl_104 hw) own_nin0))
  have F114 := (own_F (v := (.int (2 : Int32))) (own_F (v := (.int (2 : Int32))) G58_0 K78 (own_nl D7 own_nin0)) K88 (own_nl (Ne.symm P12) own_nin0))
  have F115 := (own_E (own_E F85 K78) K88)
  have F116 := (own_F (v := .null) (own_F (v := .null) (own_F (v := .null) (own_F (v := .null) (own_F (v := .null) (own_F (v := .null) (own_F (v := .null) (own_F (v := .null) (own_F (v := .null) (own_F (v := .null) (own_F (v := .null) F17 K22 (own_nr (sl_113 hw) own_nin0)) K25 (own_nl (Ne.symm D7) own_nin0)) K28 (own_nl (Ne.symm D7) own_nin0)) K35 (own_nl (Ne.symm D7) own_nin0)) K38 (own_nl (Ne.symm D7) own_nin0)) K41 (own_nl (Ne.symm D7) own_nin0)) K44 (own_nl (Ne.symm D7) own_nin0)) K45 (own_nl (Ne.symm D48) (own_nl (Ne.symm D48) (own_nl (Ne.symm D48) (own_nl (Ne.symm D48) (own_nl (Ne.symm D48) (own_nl (Ne.symm D48) own_nin0))))))) K58 (own_nl (Ne.symm D7) own_nin0)) K78 (own_nr (sl_114 hw) own_nin0)) K88 (own_nl (Ne.symm D48) own_nin0))
  have F117 := (own_F (v := .null) (own_F (v := .null) (own_F (v := .null) (own_F (v := .null) (own_F (v := .null) (own_F (v := .null) (own_F (v := .null) (own_F (v := .null) (own_F (v := .null) (own_F (v := .null) (own_F (v := .null) (own_F (v := .null) (own_F (v := .null) (own_F (v := .null) (D2 (Or.inl (own_w hw 63 rfl)) (ty := (.object zs2)) (by decide)) K6 (own_nr (sl_44 hw) own_nin0)) K12 (own_nr (sl_45 hw) own_nin0)) K17 (own_nr (sl_26 hw) own_nin0)) K22 (own_nr (sl_81 hw) own_nin0)) K25 (own_nl (Ne.symm D7) own_nin0)) K28 (own_nl (Ne.symm D7) own_nin0)) K35 (own_nl (Ne.symm D7) own_nin0)) K38 (own_nl (Ne.symm D7) own_nin0)) K41 (own_nl (Ne.symm D7) own_nin0)) K44 (own_nl (Ne.symm D7) own_nin0)) K45 (own_nl (Ne.symm D48) (own_nl (Ne.symm D48) (own_nl (Ne.symm D48) (own_nl (Ne.symm D48) (own_nl (Ne.symm D48) (own_nl (Ne.symm D48) own_nin0))))))) K58 (own_nl (Ne.symm D7) own_nin0)) K78 (own_nr (sl_107 hw) own_nin0)) K88 (own_nl (Ne.symm D48) own_nin0))
  have F118 := (own_F (v := .null) (own_F (v := .null) (own_F (v := .null) (own_F (v := .null) (own_F (v := .null) (own_F (v := .null) (own_F (v := .null) (own_F (v := .null) (own_F (v := .null) (own_F (v := .null) (own_F (v := .null) (own_F (v := .null) (own_F (v := .null) F6 K12 (own_nr (sl_53 hw) own_nin0)) K17 (own_nr (sl_29 hw) own_nin0)) K22 (own_nr (sl_87 hw) own_nin0)) K25 (own_nl (Ne.symm D7) own_nin0)) K28 (own_nl (Ne.symm D7) own_nin0)) K35 (own_nl (Ne.symm D7) own_nin0)) K38 (own_nl (Ne.symm D7) own_nin0)) K41 (own_nl (Ne.symm D7) own_nin0)) K44 (own_nl (Ne.symm D7) own_nin0)) K45 (own_nl (Ne.symm D48) (own_nl (Ne.symm D48) (own_nl (Ne.symm D48) (own_nl (Ne.symm D48) (own_nl (Ne.symm D48) (own_nl (Ne.symm D48) own_nin0))))))) K58 (own_nl (Ne.symm D7) own_nin0)) K78 (own_nr (sl_110 hw) own_nin0)) K88 (own_nl (Ne.symm D48) own_nin0))
  have F119 := (own_F (v := .null) (own_F (v := .null) (own_F (v := .null) (own_F (v := .null) (own_F (v := .null) (own_F (v := .null) (own_F (v := .null) (own_F (v := .null) (own_F (v := .null) (own_F (v := .null) (own_F (v := .null) (own_F (v := .null) (own_F (v := .null) (own_F (v := .null) (D2 (Or.inl (own_w hw 67 rfl)) (ty := (.object zs2)) (by decide)) K6 (own_nr (sl_46 hw) own_nin0)) K12 (own_nr (sl_47 hw) own_nin0)) K17 (own_nr (sl_28 hw) own_nin0)) K22 (own_nr (sl_82 hw) own_nin0)) K25 (own_nl (Ne.symm D7) own_nin0)) K28 (own_nl (Ne.symm D7) own_nin0)) K35 (own_nl (Ne.symm D7) own_nin0)) K38 (own_nl (Ne.symm D7) own_nin0)) K41 (own_nl (Ne.symm D7) own_nin0)) K44 (own_nl (Ne.symm D7) own_nin0)) K45 (own_nl (Ne.symm D48) (own_nl (Ne.symm D48) (own_nl (Ne.symm D48) (own_nl (Ne.symm D48) (own_nl (Ne.symm D48) (own_nl (Ne.symm D48) own_nin0))))))) K58 (own_nl (Ne.symm D7) own_nin0)) K78 (own_nr (sl_109 hw) own_nin0)) K88 (own_nl (Ne.symm D48) own_nin0))
  have F120 := (own_F (v := .null) (own_F (v := .null) (own_F (v := .null) (own_F (v := .null) (own_F (v := .null) (own_F (v := .null) (own_F (v := .null) (own_F (v := .null) (own_F (v := .null) (own_F (v := .null) (own_F (v := .null) (own_F (v := .null) F12 K17 (own_nr (sl_34 hw) own_nin0)) K22 (own_nr (sl_90 hw) own_nin0)) K25 (own_nl (Ne.symm D7) own_nin0)) K28 (own_nl (Ne.symm D7) own_nin0)) K35 (own_nl (Ne.symm D7) own_nin0)) K38 (own_nl (Ne.symm D7) own_nin0)) K41 (own_nl (Ne.symm D7) own_nin0)) K44 (own_nl (Ne.symm D7) own_nin0)) K45 (own_nl (Ne.symm D48) (own_nl (Ne.symm D48) (own_nl (Ne.symm D48) (own_nl (Ne.symm D48) (own_nl (Ne.symm D48) (own_nl (Ne.symm D48) own_nin0))))))) K58 (own_nl (Ne.symm D7) own_nin0)) K78 (own_nr (sl_111 hw) own_nin0)) K88 (own_nl (Ne.symm D48) own_nin0))
  have F121 := (own_F (v := .null) (own_F (v := .null) (own_F (v := .null) (own_F (v := .null) (own_F (v := .null) (own_F (v := .null) (own_F (v := .null) (own_F (v := .null) (own_F (v := .null) (own_F (v := .null) (own_F (v := .null) (own_F (v := .null) (own_F (v := .null) (own_F (v := .null) (D2 (Or.inl (own_w hw 71 rfl)) (ty := (.object zs0)) (by decide)) K6 (own_nr (sl_63 hw) own_nin0)) K12 (own_nr (sl_64 hw) own_nin0)) K17 (own_nr (sl_58 hw) own_nin0)) K22 (own_nr (sl_80 hw) own_nin0)) K25 (own_nl (Ne.symm D7) own_nin0)) K28 (own_nl (Ne.symm D7) own_nin0)) K35 (own_nl (Ne.symm D7) own_nin0)) K38 (own_nl (Ne.symm D7) own_nin0)) K41 (own_nl (Ne.symm D7) own_nin0)) K44 (own_nl (Ne.symm D7) own_nin0)) K45 (own_nl (Ne.symm D48) (own_nl (Ne.symm D48) (own_nl (Ne.symm D48) (own_nl (Ne.symm D48) (own_nl (Ne.symm D48) (own_nl (Ne.symm D48) own_nin0))))))) K58 (own_nl (Ne.symm D7) own_nin0)) K78 (own_nr (sl_104 hw) own_nin0)) K88 (own_nl (Ne.symm D48) own_nin0))
  have F122 := (own_F (v := .null) (own_F (v := .null) (own_F (v := .null) (own_F (v := .null) (own_F (v := .null) (own_F (v := .null) (own_F (v := .null) (own_F (v := .null) (own_F (v := .null) (own_F (v := .null) (own_F (v := .null) (own_F (v := .null) (own_F (v := .null) (own_F (v := .null) (D2 (Or.inl (own_w hw 73 rfl)) (ty := (.object zs0)) (by decide)) K6 (own_nr (sl_70 hw) own_nin0)) K12 (own_nr (sl_71 hw) own_nin0)) K17 (own_nr (sl_65 hw) own_nin0)) K22 (own_nr (sl_79 hw) own_nin0)) K25 (own_nl (Ne.symm D7) own_nin0)) K28 (own_nl (Ne.symm D7) own_nin0)) K35 (own_nl (Ne.symm D7) own_nin0)) K38 (own_nl (Ne.symm D7) own_nin0)) K41 (own_nl (Ne.symm D7) own_nin0)) K44 (own_nl (Ne.symm D7) own_nin0)) K45 (own_nl (Ne.symm D48) (own_nl (Ne.symm D48) (own_nl (Ne.symm D48) (own_nl (Ne.symm D48) (own_nl (Ne.symm D48) (own_nl (Ne.symm D48) own_nin0))))))) K58 (own_nl (Ne.symm D7) own_nin0)) K78 (own_nr (sl_105 hw) own_nin0)) K88 (own_nl (Ne.symm D48) own_nin0))
  have F123 := (own_F (v := .null) (own_F (v := .null) (own_F (v := .null) (own_F (v := .null) (own_F (v := .null) (own_F (v := .null) (own_F (v := .null) (own_F (v := .null) (own_F (v := .null) (own_F (v := .null) F22 K25 (own_nl (Ne.symm D7) own_nin0)) K28 (own_nl (Ne.symm D7) own_nin0)) K35 (own_nl (Ne.symm D7) own_nin0)) K38 (own_nl (Ne.symm D7) own_nin0)) K41 (own_nl (Ne.symm D7) own_nin0)) K44 (own_nl (Ne.symm D7) own_nin0)) K45 (own_nl (Ne.symm D48) (own_nl (Ne.symm D48) (own_nl (Ne.symm D48) (own_nl (Ne.symm D48) (own_nl (Ne.symm D48) (own_nl (Ne.symm D48) own_nin0))))))) K58 (own_nl (Ne.symm D7) own_nin0)) K78 (own_nr (sl_112 hw) own_nin0)) K88 (own_nl (Ne.symm D48) own_nin0))
  have F124 := (own_F (v := .null) (own_F (v := .null) (own_F (v := .null) (own_F (v := .null) (own_F (v := .null) (own_F (v := .null) (own_F (v := .null) (own_F (v := .null) (own_F (v := .null) (own_F (v := .null) (own_F (v := .null) (own_F (v := .null) (own_F (v := .null) (own_F (v := .null) (D2 (Or.inl (own_w hw 82 rfl)) (ty := (.object zs2)) (by decide)) K6 (own_nr (sl_49 hw) own_nin0)) K12 (own_nr (sl_50 hw) own_nin0)) K17 (own_nr (sl_25 hw) own_nin0)) K22 (own_nr (sl_83 hw) own_nin0)) K25 (own_nl (Ne.symm D7) own_nin0)) K28 (own_nl (Ne.symm D7) own_nin0)) K35 (own_nl (Ne.symm D7) own_nin0)) K38 (own_nl (Ne.symm D7) own_nin0)) K41 (own_nl (Ne.symm D7) own_nin0)) K44 (own_nl (Ne.symm D7) own_nin0)) K45 (own_nl (Ne.symm D48) (own_nl (Ne.symm D48) (own_nl (Ne.symm D48) (own_nl (Ne.symm D48) (own_nl (Ne.symm D48) (own_nl (Ne.symm D48) own_nin0))))))) K58 (own_nl (Ne.symm D7) own_nin0)) K78 (own_nr (sl_106 hw) own_nin0)) K88 (own_nl (Ne.symm D48) own_nin0))
  have F125 := (own_F (v := .null) (own_F (v := .null) (own_F (v := .null) (own_F (v := .null) (own_F (v := .null) (own_F (v := .null) (own_F (v := .null) (own_F (v := .null) (own_F (v := .null) (own_F (v := .null) (own_F (v := .null) (own_F (v := .null) (own_F (v := .null) (own_F (v := .null) (D2 (Or.inl (own_w hw 94 rfl)) (ty := (.object zs2)) (by decide)) K6 (own_nr (sl_51 hw) own_nin0)) K12 (own_nr (sl_52 hw) own_nin0)) K17 (own_nr (sl_27 hw) own_nin0)) K22 (own_nr (sl_84 hw) own_nin0)) K25 (own_nl (Ne.symm D7) own_nin0)) K28 (own_nl (Ne.symm D7) own_nin0)) K35 (own_nl (Ne.symm D7) own_nin0)) K38 (own_nl (Ne.symm D7) own_nin0)) K41 (own_nl (Ne.symm D7) own_nin0)) K44 (own_nl (Ne.symm D7) own_nin0)) K45 (own_nl (Ne.symm D48) (own_nl (Ne.symm D48) (own_nl (Ne.symm D48) (own_nl (Ne.symm D48) (own_nl (Ne.symm D48) (own_nl (Ne.symm D48) own_nin0))))))) K58 (own_nl (Ne.symm D7) own_nin0)) K78 (own_nr (sl_108 hw) own_nin0)) K88 (own_nl (Ne.symm D48) own_nin0))
  have F126 := (own_F (v := (.int (2 : Int32))) G78_0 K88 (own_nl (Ne.symm D48) own_nin0))
  exact own_ret0 Y88 hx hlk Bd.returns (hb hby d7_134) ⟨rfl, b2, KC101, le2, F102, F103, F104, F105, F106, F107, F108, F109, F110, F111, F112, F113, F114, G88_0, F115, F116, F117, F118, F119, F120, F121, F122, F123, F124, F125, F126⟩ (by decide) (by decide)
theorem ef_0_IIII (m : MethodId) (x0 : Int32) (x1 : Int32) (x2 : Int32) (x3 : Int32) : entryFrame m #[(.int x0), (.int x1), (.int x2), (.int x3)] maxLocals = mkF m 0 #[.val (.int x0), .val (.int x1), .val (.int x2), .val (.int x3), .unset, .unset, .unset, .unset, .unset, .unset, .unset, .unset, .unset, .unset] [] := by first | (simp [entryFrame, mkF, argsToLocals, Value.category, maxLocals]; done) | rfl
set_option maxRecDepth 65536 in
set_option maxHeartbeats 40000000 in
theorem rm0_c (l : Launch) (Z : State) (a0 : Array Value) (hw : ∀ d ∈ tables_1, d.before a0 Z = true) (ws : List Jvm.Cond) (w_NULL_KEY : Addr) (w_SPLIT : Addr) (w_ABSORBED : Addr) (w_NEW_ROOT : Addr) (p0 : Int32) (p1 : Int32) (p2 : Int32) (p3 : Int32) (h0 : Heap) (n0 : Nat) (Z0 : n0 ≤ Array.size h0) (PN : own_Pins Z h0 w_NULL_KEY w_SPLIT w_ABSORBED w_NEW_ROOT) :
    MetFree l x (head1 (Jvm.Cond.code x code maxLocals ret :: ws) room_1) (fun a U => a = #[(.int p0), (.int p1), (.int p2), (.int p3)] ∧ Z.Warmed39 U.vm ∧ U.heap = h0) (fun _ _ _ _ _ => True) (fun _ U o U' => ∃ v L, o = .returned v ∧ own_QQ n0 (own_R (some (.int (1 : Int32))) (fun _ => True)) v U'.heap L ∧ FrameEnd U o U' L room_1.cells room_1.slots) := by
  refine MetFree.of_bodySF (plainFor_of_name pn_com_example_napkintree_napkintree_balancing_NodeChildPinLaw) hisR ?_
  intro p e s m args below meth c s₁ Bd hml0 hP hK
  obtain ⟨rfl, hZ, hh⟩ := hP
  have hx := Bd.exec
  have hby := Bd.bytes
  have hml : c.maxLocals = 14 := hml0
  have hown : s.vm.findClass zs9 = some m.cls := findClass_of_methodNamed Bd.named
  have hnm := (name_of_methodNamed Bd.named Bd.method).1
  have hlk : meth.locks = false := BodyLoose.notSynchronized Bd
  have Y0 : own_S p l e room_1 s m #[(.int p0), (.int p1), (.int p2), (.int p3)] below meth c n0 s₁ h0 0 0 := ⟨[], Stand.of_body Bd, Fr.nil n0, by rw [← hh, Bd.state]; rfl, Z0⟩
  obtain ⟨S_NULL_KEY, E_NULL_KEY, S_SPLIT, E_SPLIT, S_ABSORBED, E_ABSORBED, S_NEW_ROOT, E_NEW_ROOT, F_SPLIT_ordinal, F_ABSORBED_ordinal, F_NEW_ROOT_ordinal, S_MARK_BITS⟩ := PN
  refine (?_ : own_Fin p e below _ _)
  refine own_st (fun t k => castTop (ef_0_IIII m p0 p1 p2 p3) k) ?_
  refine own_iloadN Y0 hx (pc' := 1) (hb hby at_0) rfl rfl ?_
  refine own_iconst Y0 hx (pc' := 2) (x := (3 : Int32)) (hb hby at_1) rfl (by decide) ?_
  refine own_iand Y0 hx (pc' := 3) (hb hby at_2) rfl (z := (p0 &&& (3 : Int32))) rfl ?_
  refine own_istore Y0 hx (pc' := 5) (Ls' := #[.val (.int p0), .val (.int p1), .val (.int p2), .val (.int p3), .val (.int (p0 &&& (3 : Int32))), .unset, .unset, .unset, .unset, .unset, .unset, .unset, .unset, .unset]) (hb hby at_3) rfl rfl ?_
  refine own_iloadN Y0 hx (pc' := 6) (hb hby at_5) rfl rfl ?_
  refine own_iconst Y0 hx (pc' := 7) (x := (3 : Int32)) (hb hby at_6) rfl (by decide) ?_
  refine own_iand Y0 hx (pc' := 8) (hb hby at_7) rfl (z := (p3 &&& (3 : Int32))) rfl ?_
  refine own_istore Y0 hx (pc' := 10) (Ls' := #[.val (.int p0), .val (.int p1), .val (.int p2), .val (.int p3), .val (.int (p0 &&& (3 : Int32))), .val (.int (p3 &&& (3 : Int32))), .unset, .unset, .unset, .unset, .unset, .unset, .unset, .unset]) (hb hby at_8) rfl rfl ?_
  refine own_iloadN Y0 hx (pc' := 11) (hb hby at_10) rfl rfl ?_
  refine own_iconst Y0 hx (pc' := 12) (x := (1 : Int32)) (hb hby at_11) rfl (by decide) ?_
  refine own_iand Y0 hx (pc' := 13) (hb hby at_12) rfl (z := (p1 &&& (1 : Int32))) rfl ?_
  refine own_istore Y0 hx (pc' := 15) (Ls' := #[.val (.int p0), .val (.int p1), .val (.int p2), .val (.int p3), .val (.int (p0 &&& (3 : Int32))), .val (.int (p3 &&& (3 : Int32))), .val (.int (p1 &&& (1 : Int32))), .unset, .unset, .unset, .unset, .unset, .unset, .unset]) (hb hby at_13) rfl rfl ?_
  refine own_iloadN Y0 hx (pc' := 16) (hb hby at_15) rfl rfl ?_
  refine own_ldcI Y0 hx (pc' := 18) hZ hown (own_w hw 0 rfl) (hb hby at_16) rfl ?_
  refine own_iand Y0 hx (pc' := 19) (hb hby at_18) rfl (z := (p2 &&& (2147483647 : Int32))) rfl ?_
  refine own_iconst Y0 hx (pc' := 20) (x := (3 : Int32)) (hb hby at_19) rfl (by decide) ?_
  refine own_irem Y0 hx (pc' := 21) (hb hby at_20) rfl (by decide) (z := ((p2 &&& (2147483647 : Int32)) % (3 : Int32))) rfl ?_
  refine own_istore Y0 hx (pc' := 23) (Ls' := #[.val (.int p0), .val (.int p1), .val (.int p2), .val (.int p3), .val (.int (p0 &&& (3 : Int32))), .val (.int (p3 &&& (3 : Int32))), .val (.int (p1 &&& (1 : Int32))), .val (.int ((p2 &&& (2147483647 : Int32)) % (3 : Int32))), .unset, .unset, .unset, .unset, .unset, .unset]) (hb hby at_21) rfl rfl ?_
  refine own_new Y0 hx (pc' := 26) (cl' := 1) (sl' := 11) hZ hown (own_w hw 1 rfl) (own_w hw 2 rfl) (own_w hw 3 rfl) (hb hby at_23) rfl rfl rfl (by decide) (by decide) (fun T1 h1 b1 Y1 K1 le1 E1 D1 => ?_)
  refine own_dup Y1 hx (pc' := 27) (hb hby at_26) rfl rfl ?_
  refine own_special Y1 hx (pc' := 30) (W := 1) (cl' := 1) (sl' := 11) (as' := []) (S' := [(.ref b1)]) (a := b1) rfl hZ hown (own_w hw 4 rfl) (own_w hw 5 rfl) (own_w hw 3 rfl) (own_w hw 6 rfl) (by decide) (rm1_1 l Z a0 hw [] b1 h1 n0 (own_sz Y1)) (hb hby at_27) rfl (by rw [hml]; rfl) rfl (lenOf pd___V rfl) rfl (by decide) (by decide) rfl rfl (by decide) (by decide) own_Same.sz (own_fixS (S2 := [(.ref b1)]) rfl (fun T2 Y2 => ?_))
  refine own_astore Y2 hx (pc' := 32) (Ls' := #[.val (.int p0), .val (.int p1), .val (.int p2), .val (.int p3), .val (.int (p0 &&& (3 : Int32))), .val (.int (p3 &&& (3 : Int32))), .val (.int (p1 &&& (1 : Int32))), .val (.int ((p2 &&& (2147483647 : Int32)) % (3 : Int32))), .val (.ref b1), .unset, .unset, .unset, .unset, .unset]) (hb hby at_30) rfl rfl rfl ?_
  have KC4 : own_Kp h0 h1 [] := ((own_Kp.refl h0 []).trans K1 own_all0)
  refine own_new Y2 hx (pc' := 35) (cl' := 2) (sl' := 17) hZ hown (own_w hw 10 rfl) (own_w hw 11 rfl) (own_w hw 12 rfl) (hb hby at_32) rfl rfl rfl (by decide) (by decide) (fun T3 h3 b3 Y3 K3 le3 E3 D3 => ?_)
  have sz_b3 : Array.size h0 ≤ b3 := Nat.le_trans KC4.1 le3
  refine own_dup Y3 hx (pc' := 36) (hb hby at_35) rfl rfl ?_
  refine own_special Y3 hx (pc' := 39) (W := 1) (cl' := 3) (sl' := 18) (as' := []) (S' := [(.ref b3)]) (a := b3) rfl hZ hown (own_w hw 13 rfl) (own_w hw 14 rfl) (own_w hw 12 rfl) (own_w hw 15 rfl) (by decide) (rm3_4 l Z a0 hw [] b3 h3 n0 (own_sz Y3) (D3 (Or.inr (own_w hw 28 rfl)) (ty := (.object zs10)) (by decide)) E3 (Nat.le_trans Z0 sz_b3) (D3 (Or.inr (own_w hw 34 rfl)) (ty := (.object zs13)) (by decide))) (hb hby at_36) rfl (by rw [hml]; rfl) rfl (lenOf pd___V rfl) rfl (by decide) (by decide) rfl rfl (by decide) (by decide) P3_4_sz (own_fixR (S2 := [(.ref b3)]) rfl (fun T5 h5 Y5 R5 => ?_))
  obtain ⟨b5_0, K5, le_b5_0, G5_0, G5_1⟩ := R5
  have KC6 : own_Kp h0 h3 [] := (KC4.trans K3 own_all0)
  have sz_b5_0 : Array.size h0 ≤ b5_0 := Nat.le_trans KC6.1 le_b5_0
  refine own_astore Y5 hx (pc' := 41) (Ls' := #[.val (.int p0), .val (.int p1), .val (.int p2), .val (.int p3), .val (.int (p0 &&& (3 : Int32))), .val (.int (p3 &&& (3 : Int32))), .val (.int (p1 &&& (1 : Int32))), .val (.int ((p2 &&& (2147483647 : Int32)) % (3 : Int32))), .val (.ref b1), .val (.ref b3), .unset, .unset, .unset, .unset]) (hb hby at_39) rfl rfl rfl ?_
  refine own_aload Y5 hx (pc' := 43) (hb hby at_41) rfl rfl rfl ?_
  refine own_aload Y5 hx (pc' := 45) (hb hby at_43) rfl rfl rfl ?_
  have F7 := (own_F (v := .null) (D3 (Or.inl (own_w hw 37 rfl)) (ty := (.object zs15)) (by decide)) K5 (own_nr (sl_2 hw) (own_nr (sl_3 hw) own_nin0)))
  have F8 := (own_E E3 K5)
  refine own_putF Y5 hx (pc' := 48) hZ hown (host := "") (Or.inl (own_w hw 35 rfl)) (Via.of (own_w hw 36 rfl)) F7 F8 (Or.inl (own_w hw 37 rfl)) (own_w hw 11 rfl) (ty := (.object zs15)) (by decide) rfl rfl (Nat.le_trans Z0 sz_b3) (hb hby at_45) rfl (fun T9 h9 Y9 K9 F9 => ?_)
  refine own_aload Y9 hx (pc' := 50) (hb hby at_48) rfl rfl rfl ?_
  have F11 := (own_E F8 K9)
  have F12 := (own_E (own_E (own_E E1 K3) K5) K9)
  have D13 : b1 ≠ b3 := (Nat.ne_of_lt (Nat.lt_of_lt_of_le E1.lt le3))
  have F14 := (own_F (v := .null) (own_F (v := .null) (own_F (v := .null) (D1 (Or.inl (own_w hw 63 rfl)) (ty := (.object zs2)) (by decide)) K3 own_nin0) K5 (own_nl D13 (own_nl D13 own_nin0))) K9 (own_nl D13 own_nin0))
  have F15 := (own_F (v := .null) (own_F (v := .null) (own_F (v := .null) (D1 (Or.inl (own_w hw 67 rfl)) (ty := (.object zs2)) (by decide)) K3 own_nin0) K5 (own_nl D13 (own_nl D13 own_nin0))) K9 (own_nl D13 own_nin0))
  have F16 := (own_F (v := .null) (own_F (v := .null) (own_F (v := .null) (D1 (Or.inl (own_w hw 71 rfl)) (ty := (.object zs0)) (by decide)) K3 own_nin0) K5 (own_nl D13 (own_nl D13 own_nin0))) K9 (own_nl D13 own_nin0))
  have F17 := (own_F (v := .null) (own_F (v := .null) (own_F (v := .null) (D1 (Or.inl (own_w hw 73 rfl)) (ty := (.object zs0)) (by decide)) K3 own_nin0) K5 (own_nl D13 (own_nl D13 own_nin0))) K9 (own_nl D13 own_nin0))
  have F18 := (own_F (v := .null) (own_F (v := .null) (own_F (v := .null) (D1 (Or.inl (own_w hw 82 rfl)) (ty := (.object zs2)) (by decide)) K3 own_nin0) K5 (own_nl D13 (own_nl D13 own_nin0))) K9 (own_nl D13 own_nin0))
  have F19 := (own_St (own_St (own_St (own_St S_NULL_KEY K1 own_all0) K3 own_all0) K5 (own_allS (own_plain E3) (own_allS (own_plain E3) own_all0))) K9 (own_allS (own_plain F8) own_all0))
  have F20 := (own_F (v := .null) (own_F (v := .null) (own_F (v := .null) (D1 (Or.inl (own_w hw 94 rfl)) (ty := (.object zs2)) (by decide)) K3 own_nin0) K5 (own_nl D13 (own_nl D13 own_nin0))) K9 (own_nl D13 own_nin0))
  have F21 := (own_St (own_St (own_St (own_St S_SPLIT K1 own_all0) K3 own_all0) K5 (own_allS (own_plain E3) (own_allS (own_plain E3) own_all0))) K9 (own_allS (own_plain F8) own_all0))
  have F22 := (own_F (v := (.int (0 : Int32))) (own_F (v := (.int (0 : Int32))) (D3 (Or.inl (own_w hw 140 rfl)) (ty := .int) (by decide)) K5 (own_nr (sl_91 hw) (own_nr (sl_92 hw) own_nin0))) K9 (own_nr (sl_93 hw) own_nin0))
  have F23 := (own_St (own_St (own_St (own_St S_MARK_BITS K1 own_all0) K3 own_all0) K5 (own_allS (own_plain E3) (own_allS (own_plain E3) own_all0))) K9 (own_allS (own_plain F8) own_all0))
  have F24 := (own_E (own_E (own_E (own_E E_SPLIT K1) K3) K5) K9)
  have F25 := (own_E E_SPLIT K1)
  have D26 : w_SPLIT ≠ b3 := (Nat.ne_of_lt (Nat.lt_of_lt_of_le F25.lt le3))
  have F27 := (own_F (v := (.int (1 : Int32))) (own_F (v := (.int (1 : Int32))) (own_F (v := (.int (1 : Int32))) (own_F (v := (.int (1 : Int32))) F_SPLIT_ordinal K1 own_nin0) K3 own_nin0) K5 (own_nl D26 (own_nl D26 own_nin0))) K9 (own_nl D26 own_nin0))
  have F28 := (own_F (v := (.int (0 : Int32))) (own_F (v := (.int (0 : Int32))) (own_F (v := (.int (0 : Int32))) (D1 (Or.inl (own_w hw 153 rfl)) (ty := .int) (by decide)) K3 own_nin0) K5 (own_nl D13 (own_nl D13 own_nin0))) K9 (own_nl D13 own_nin0))
  have F29 := (own_St (own_St (own_St (own_St S_ABSORBED K1 own_all0) K3 own_all0) K5 (own_allS (own_plain E3) (own_allS (own_plain E3) own_all0))) K9 (own_allS (own_plain F8) own_all0))
  have F30 := (own_E (own_E (own_E (own_E E_ABSORBED K1) K3) K5) K9)
  have F31 := (own_E E_ABSORBED K1)
  have D32 : w_ABSORBED ≠ b3 := (Nat.ne_of_lt (Nat.lt_of_lt_of_le F31.lt le3))
  have F33 := (own_F (v := (.int (0 : Int32))) (own_F (v := (.int (0 : Int32))) (own_F (v := (.int (0 : Int32))) (own_F (v := (.int (0 : Int32))) F_ABSORBED_ordinal K1 own_nin0) K3 own_nin0) K5 (own_nl D32 (own_nl D32 own_nin0))) K9 (own_nl D32 own_nin0))
  have F34 := (own_St (own_St (own_St (own_St S_NEW_ROOT K1 own_all0) K3 own_all0) K5 (own_allS (own_plain E3) (own_allS (own_plain E3) own_all0))) K9 (own_allS (own_plain F8) own_all0))
  have F35 := (own_E (own_E (own_E (own_E E_NEW_ROOT K1) K3) K5) K9)
  have F36 := (own_E E_NEW_ROOT K1)
  have D37 : w_NEW_ROOT ≠ b3 := (Nat.ne_of_lt (Nat.lt_of_lt_of_le F36.lt le3))
  have F38 := (own_F (v := (.int (2 : Int32))) (own_F (v := (.int (2 : Int32))) (own_F (v := (.int (2 : Int32))) (own_F (v := (.int (2 : Int32))) F_NEW_ROOT_ordinal K1 own_nin0) K3 own_nin0) K5 (own_nl D37 (own_nl D37 own_nin0))) K9 (own_nl D37 own_nin0))
  refine own_virtualUp Y9 hx (pc' := 53) (W := 0) (cl' := 5) (sl' := 40) (as' := []) (S' := []) (a := b3) hZ hown (own_w hw 38 rfl) (own_w hw 39 rfl) (own_w hw 40 rfl) (own_w hw 42 rfl) (own_w hw 41 rfl) (own_w hw 19 rfl) (own_w hw 43 rfl) (by decide) F11 (rm6_22 l Z a0 hw [] b3 b1 w_NULL_KEY w_SPLIT w_ABSORBED w_NEW_ROOT h9 n0 (own_sz Y9) F9 F12 F11 F14 F15 F16 F17 (Nat.le_trans Z0 le1) F18 F19 F20 F21 F22 F23 F24 F27 F28 F29 F30 F33 (Nat.le_trans Z0 sz_b3) F34 F35 F38) (hb hby at_50) rfl (by rw [hml]; rfl) rfl (lenOf pd___V rfl) rfl (by decide) (by decide) rfl rfl (by decide) (by decide) P6_22_sz (own_fixR (S2 := []) rfl (fun T10 h10 Y10 R10 => ?_))
  obtain ⟨b10_0, b10_1, K10, le_b10_0, le_b10_1, G10_0, G10_1, G10_2, G10_3, G10_4, G10_5, G10_6, G10_7, G10_8, G10_9, G10_10, G10_11, G10_12, G10_13, G10_14, G10_15, G10_16, G10_17, G10_18, G10_19, G10_20, G10_21, G10_22, G10_23, G10_24, G10_25, G10_26, G10_27, G10_28, G10_29, G10_30, G10_31, G10_32⟩ := R10
  have KC39 : own_Kp h0 h9 [] := ((KC6.trans K5 (own_allS (Or.inr sz_b3) (own_allS (Or.inr sz_b3) own_all0))).trans K9 (own_allS (Or.inr sz_b3) own_all0))
  have sz_b10_0 : Array.size h0 ≤ b10_0 := Nat.le_trans KC39.1 le_b10_0
  have sz_b10_1 : Array.size h0 ≤ b10_1 := Nat.le_trans KC39.1 le_b10_1
  refine own_aload Y10 hx (pc' := 55) (hb hby at_53) rfl rfl rfl ?_
  refine own_getF Y10 hx (pc' := 58) (v := (.ref b10_0)) hZ hown (host := "") (Or.inl (own_w hw 35 rfl)) (Via.of (own_w hw 36 rfl)) G10_7 (hb hby at_55) rfl (fun T40 Y40 => ?_)
  refine own_castY Y40 hx (pc' := 61) hZ hown (own_w hw 1 rfl) (Ins.self G10_8) (hb hby at_58) rfl (fun T41 Y41 => ?_)
  refine own_astore Y41 hx (pc' := 63) (Ls' := #[.val (.int p0), .val (.int p1), .val (.int p2), .val (.int p3), .val (.int (p0 &&& (3 : Int32))), .val (.int (p3 &&& (3 : Int32))), .val (.int (p1 &&& (1 : Int32))), .val (.int ((p2 &&& (2147483647 : Int32)) % (3 : Int32))), .val (.ref b1), .val (.ref b3), .val (.ref b10_0), .unset, .unset, .unset]) (hb hby at_61) rfl rfl rfl ?_
  have F42 := (own_E F12 K10)
  have F43 := (own_F (v := .null) (own_F (v := .null) (own_F (v := .null) (own_F (v := .null) (D1 (Or.inl (own_w hw 50 rfl)) (ty := (.object zs0)) (by decide)) K3 own_nin0) K5 (own_nl D13 (own_nl D13 own_nin0))) K9 (own_nl D13 own_nin0)) K10 (own_nr (sl_116 hw) (own_nr (sl_115 hw) (own_nr (sl_56 hw) (own_nr (sl_54 hw) (own_nr (sl_57 hw) (own_nr (sl_55 hw) (own_nr (sl_114 hw) (own_nl D13 own_nin0)))))))))
  have F44 := (own_F (v := .null) (own_F (v := .null) (own_F (v := .null) (own_F (v := .null) (D1 (Or.inl (own_w hw 75 rfl)) (ty := (.object zs0)) (by decide)) K3 own_nin0) K5 (own_nl D13 (own_nl D13 own_nin0))) K9 (own_nl D13 own_nin0)) K10 (own_nr (sl_78 hw) (own_nr (sl_76 hw) (own_nr (sl_74 hw) (own_nr (sl_72 hw) (own_nr (sl_75 hw) (own_nr (sl_73 hw) (own_nr (sl_112 hw) (own_nl D13 own_nin0)))))))))
  have F45 := (own_E F11 K10)
  rcases own_mask2 p1 with qL63 | qL63
  ·
    rw [qL63]
    refine own_aload Y41 hx (pc' := 65) (hb hby at_63) rfl rfl rfl ?_
    refine own_aload Y41 hx (pc' := 67) (hb hby at_65) rfl rfl rfl ?_
    refine own_iload Y41 hx (pc' := 69) (hb hby at_67) rfl rfl ?_
    have F47 := (own_St F19 K10 (own_allS (own_plain F12) (own_allS (own_plain F12) (own_allS (own_plain F12) (own_allS (own_plain F12) (own_allS (own_plain F12) (own_allS (own_plain F12) (own_allS (own_plain F12) (own_allS (own_plain F11) own_all0)))))))))
    have D48 : b1 ≠ b10_0 := (Nat.ne_of_lt (Nat.lt_of_lt_of_le F12.lt le_b10_0))
    have F49 := (own_St F21 K10 (own_allS (own_plain F12) (own_allS (own_plain F12) (own_allS (own_plain F12) (own_allS (own_plain F12) (own_allS (own_plain F12) (own_allS (own_plain F12) (own_allS (own_plain F12) (own_allS (own_plain F11) own_all0)))))))))
    have F50 := (own_F (v := (.int (0 : Int32))) F22 K10 (own_nl (Ne.symm D13) (own_nl (Ne.symm D13) (own_nl (Ne.symm D13) (own_nl (Ne.symm D13) (own_nl (Ne.symm D13) (own_nl (Ne.symm D13) (own_nl (Ne.symm D13) (own_nr (sl_93 hw) own_nin0)))))))))
    have F51 := (own_St F23 K10 (own_allS (own_plain F12) (own_allS (own_plain F12) (own_allS (own_plain F12) (own_allS (own_plain F12) (own_allS (own_plain F12) (own_allS (own_plain F12) (own_allS (own_plain F12) (own_allS (own_plain F11) own_all0)))))))))
    have F52 := (own_E F24 K10)
    have D53 : w_SPLIT ≠ b1 := (Nat.ne_of_lt (Nat.lt_of_lt_of_le E_SPLIT.lt le1))
    have F54 := (own_F (v := (.int (1 : Int32))) F27 K10 (own_nl D53 (own_nl D53 (own_nl D53 (own_nl D53 (own_nl D53 (own_nl D53 (own_nl D53 (own_nl D26 own_nin0)))))))))
    have F55 := (own_St F29 K10 (own_allS (own_plain F12) (own_allS (own_plain F12) (own_allS (own_plain F12) (own_allS (own_plain F12) (own_allS (own_plain F12) (own_allS (own_plain F12) (own_allS (own_plain F12) (own_allS (own_plain F11) own_all0)))))))))
    have F56 := (own_E F30 K10)
    have D57 : w_ABSORBED ≠ b1 := (Nat.ne_of_lt (Nat.lt_of_lt_of_le E_ABSORBED.lt le1))
    have F58 := (own_F (v := (.int (0 : Int32))) F33 K10 (own_nl D57 (own_nl D57 (own_nl D57 (own_nl D57 (own_nl D57 (own_nl D57 (own_nl D57 (own_nl D32 own_nin0)))))))))
    refine own_virtualUp Y41 hx (pc' := 72) (W := 0) (cl' := 6) (sl' := 51) (as' := [(.ref b10_0), (.int (0 : Int32))]) (S' := []) (a := b3) hZ hown (own_w hw 158 rfl) (own_w hw 159 rfl) (own_w hw 52 rfl) (own_w hw 160 rfl) (own_w hw 53 rfl) (own_w hw 19 rfl) (own_w hw 55 rfl) (by decide) F45 (rm7_28 l Z a0 hw [] b3 b10_0 b1 w_NULL_KEY b10_1 w_SPLIT w_ABSORBED h10 n0 (own_sz Y41) G10_8 G10_9 G10_3 G10_5 F42 G10_0 G10_1 (Nat.le_trans Z0 le1) G10_2 F47 G10_4 G10_17 (Ne.symm D48) G10_10 (Nat.le_trans Z0 sz_b10_0) G10_18 G10_12 G10_11 G10_13 G10_14 G10_15 G10_16 F49 F45 F50 F51 F52 F54 G10_6 F55 F56 F58 G10_19) (hb hby at_69) rfl (by rw [hml]; rfl) rfl (lenOf pd__Lcom_example_napkintree_napkintree_balancing_MultiwayTree_Node_I_V rfl) rfl (by decide) (by decide) rfl rfl (by decide) (by decide) P7_28_sz (own_fixR (S2 := []) rfl (fun T46 h46 Y46 R46 => ?_))
    obtain ⟨b46_0, K46, le_b46_0, G46_0, G46_1, G46_2, G46_3, G46_4, G46_5, G46_6, G46_7, G46_8, G46_9, G46_10, G46_11, G46_12, G46_13, G46_14, G46_15, G46_16, G46_17, G46_18, G46_19, G46_20, G46_21, G46_22, G46_23, G46_24, G46_25, G46_26, G46_27, G46_28⟩ := R46
    have KC59 : own_Kp h0 h10 [] := (KC39.trans K10 (own_allS (Or.inr le1) (own_allS (Or.inr le1) (own_allS (Or.inr le1) (own_allS (Or.inr le1) (own_allS (Or.inr le1) (own_allS (Or.inr le1) (own_allS (Or.inr le1) (own_allS (Or.inr sz_b3) own_all0)))))))))
    have sz_b46_0 : Array.size h0 ≤ b46_0 := Nat.le_trans KC59.1 le_b46_0
    have F60 := (own_E F42 K46)
    have F61 := (own_F (v := .null) F43 K46 (own_nr (sl_116 hw) (own_nr (sl_115 hw) (own_nr (sl_56 hw) (own_nr (sl_54 hw) (own_nr (sl_57 hw) (own_nr (sl_55 hw) (own_nl D48 (own_nl D48 (own_nl D48 (own_nl D48 (own_nl D48 (own_nl D48 (own_nl D48 (own_nl D48 (own_nl D48 (own_nr (sl_114 hw) (own_nl D48 own_nin0))))))))))))))))))
    have F62 := (own_F (v := .null) F44 K46 (own_nr (sl_78 hw) (own_nr (sl_76 hw) (own_nr (sl_74 hw) (own_nr (sl_72 hw) (own_nr (sl_75 hw) (own_nr (sl_73 hw) (own_nl D48 (own_nl D48 (own_nl D48 (own_nl D48 (own_nl D48 (own_nl D48 (own_nl D48 (own_nl D48 (own_nl D48 (own_nr (sl_112 hw) (own_nl D48 own_nin0))))))))))))))))))
    have F63 := (own_E F45 K46)
    have F64 := (own_E G10_8 K46)
    have F65 := (own_F (v := (.ref b1)) G10_9 K46 (own_nl (Ne.symm D48) (own_nl (Ne.symm D48) (own_nl (Ne.symm D48) (own_nl (Ne.symm D48) (own_nl (Ne.symm D48) (own_nl (Ne.symm D48) (own_nr (sl_54 hw) (own_nr (sl_55 hw) (own_nr (sl_56 hw) (own_nr (sl_57 hw) (own_nr (sl_5 hw) (own_nr (sl_6 hw) (own_nr (sl_115 hw) (own_nr (sl_116 hw) (own_nr (sl_113 hw) (own_nl (Ne.symm D48) (own_nr (sl_114 hw) own_nin0))))))))))))))))))
    rcases own_mod3 p2 with qL72 | qL72 | qL72
    ·
      rw [qL72]
      refine own_aload Y46 hx (pc' := 74) (hb hby at_72) rfl rfl rfl ?_
      refine own_aload Y46 hx (pc' := 76) (hb hby at_74) rfl rfl rfl ?_
      refine own_iload Y46 hx (pc' := 78) (hb hby at_76) rfl rfl ?_
      have F67 := (own_St F47 K46 (own_allS (own_plain F42) (own_allS (own_plain F42) (own_allS (own_plain F42) (own_allS (own_plain F42) (own_allS (own_plain F42) (own_allS (own_plain F42) (own_allS (own_plain G10_8) (own_allS (own_plain G10_8) (own_allS (own_plain G10_8) (own_allS (own_plain G10_8) (own_allS (own_plain G10_8) (own_allS (own_plain G10_8) (own_allS (own_plain G10_8) (own_allS (own_plain G10_8) (own_allS (own_plain G10_8) (own_allS (own_plain F42) (own_allS (own_plain G10_8) own_all0))))))))))))))))))
      have F68 := (own_St F49 K46 (own_allS (own_plain F42) (own_allS (own_plain F42) (own_allS (own_plain F42) (own_allS (own_plain F42) (own_allS (own_plain F42) (own_allS (own_plain F42) (own_allS (own_plain G10_8) (own_allS (own_plain G10_8) (own_allS (own_plain G10_8) (own_allS (own_plain G10_8) (own_allS (own_plain G10_8) (own_allS (own_plain G10_8) (own_allS (own_plain G10_8) (own_allS (own_plain G10_8) (own_allS (own_plain G10_8) (own_allS (own_plain F42) (own_allS (own_plain G10_8) own_all0))))))))))))))))))
      have D69 : b3 ≠ b10_0 := (Nat.ne_of_lt (Nat.lt_of_lt_of_le F11.lt le_b10_0))
      have F70 := (own_F (v := (.int (0 : Int32))) F50 K46 (own_nl (Ne.symm D13) (own_nl (Ne.symm D13) (own_nl (Ne.symm D13) (own_nl (Ne.symm D13) (own_nl (Ne.symm D13) (own_nl (Ne.symm D13) (own_nl D69 (own_nl D69 (own_nl D69 (own_nl D69 (own_nl D69 (own_nl D69 (own_nl D69 (own_nl D69 (own_nl D69 (own_nl (Ne.symm D13) (own_nl D69 own_nin0))))))))))))))))))
      have F71 := (own_St F51 K46 (own_allS (own_plain F42) (own_allS (own_plain F42) (own_allS (own_plain F42) (own_allS (own_plain F42) (own_allS (own_plain F42) (own_allS (own_plain F42) (own_allS (own_plain G10_8) (own_allS (own_plain G10_8) (own_allS (own_plain G10_8) (own_allS (own_plain G10_8) (own_allS (own_plain G10_8) (own_allS (own_plain G10_8) (own_allS (own_plain G10_8) (own_allS (own_plain G10_8) (own_allS (own_plain G10_8) (own_allS (own_plain F42) (own_allS (own_plain G10_8) own_all0))))))))))))))))))
      have F72 := (own_E F52 K46)
      have D73 : w_SPLIT ≠ b10_0 := (Nat.ne_of_lt (Nat.lt_of_lt_of_le F24.lt le_b10_0))
      have F74 := (own_F (v := (.int (1 : Int32))) F54 K46 (own_nl D53 (own_nl D53 (own_nl D53 (own_nl D53 (own_nl D53 (own_nl D53 (own_nl D73 (own_nl D73 (own_nl D73 (own_nl D73 (own_nl D73 (own_nl D73 (own_nl D73 (own_nl D73 (own_nl D73 (own_nl D53 (own_nl D73 own_nin0))))))))))))))))))
      have F75 := (own_St F55 K46 (own_allS (own_plain F42) (own_allS (own_plain F42) (own_allS (own_plain F42) (own_allS (own_plain F42) (own_allS (own_plain F42) (own_allS (own_plain F42) (own_allS (own_plain G10_8) (own_allS (own_plain G10_8) (own_allS (own_plain G10_8) (own_allS (own_plain G10_8) (own_allS (own_plain G10_8) (own_allS (own_plain G10_8) (own_allS (own_plain G10_8) (own_allS (own_plain G10_8) (own_allS (own_plain G10_8) (own_allS (own_plain F42) (own_allS (own_plain G10_8) own_all0))))))))))))))))))
      have F76 := (own_E F56 K46)
      have D77 : w_ABSORBED ≠ b10_0 := (Nat.ne_of_lt (Nat.lt_of_lt_of_le F30.lt le_b10_0))
      have F78 := (own_F (v := (.int (0 : Int32))) F58 K46 (own_nl D57 (own_nl D57 (own_nl D57 (own_nl D57 (own_nl D57 (own_nl D57 (own_nl D77 (own_nl D77 (own_nl D77 (own_nl D77 (own_nl D77 (own_nl D77 (own_nl D77 (own_nl D77 (own_nl D77 (own_nl D57 (own_nl D77 own_nin0))))))))))))))))))
      refine own_virtualUp Y46 hx (pc' := 81) (W := 0) (cl' := 7) (sl' := 62) (as' := [(.ref b10_0), (.int (0 : Int32))]) (S' := []) (a := b3) hZ hown (own_w hw 158 rfl) (own_w hw 159 rfl) (own_w hw 52 rfl) (own_w hw 160 rfl) (own_w hw 53 rfl) (own_w hw 19 rfl) (own_w hw 55 rfl) (by decide) F63 (rm7_33 l Z a0 hw [] b3 b10_0 b1 w_NULL_KEY b10_1 b46_0 w_SPLIT w_ABSORBED h46 n0 (own_sz Y46) F64 F65 G46_3 G46_5 F60 G46_0 G46_1 (Nat.le_trans Z0 le1) G46_2 F67 G46_4 G46_8 (Ne.symm D48) G46_6 (Nat.le_trans Z0 sz_b10_0) G46_9 G46_7 G46_10 G46_11 G46_13 G46_12 G46_14 F68 F63 F70 F71 F72 F74 G46_15 F75 F76 F78 G46_16) (hb hby at_78) rfl (by rw [hml]; rfl) rfl (lenOf pd__Lcom_example_napkintree_napkintree_balancing_MultiwayTree_Node_I_V rfl) rfl (by decide) (by decide) rfl rfl (by decide) (by decide) P7_33_sz (own_fixR (S2 := []) rfl (fun T66 h66 Y66 R66 => ?_))
      obtain ⟨b66_0, K66, le_b66_0, G66_0, G66_1, G66_2, G66_3, G66_4, G66_5, G66_6, G66_7, G66_8, G66_9, G66_10, G66_11, G66_12, G66_13, G66_14, G66_15, G66_16, G66_17, G66_18, G66_19, G66_20, G66_21, G66_22, G66_23, G66_24, G66_25, G66_26, G66_27, G66_28⟩ := R66
      have KC79 : own_Kp h0 h46 [] := (KC59.trans K46 (own_allS (Or.inr le1) (own_allS (Or.inr le1) (own_allS (Or.inr le1) (own_allS (Or.inr le1) (own_allS (Or.inr le1) (own_allS (Or.inr le1) (own_allS (Or.inr sz_b10_0) (own_allS (Or.inr sz_b10_0) (own_allS (Or.inr sz_b10_0) (own_allS (Or.inr sz_b10_0) (own_allS (Or.inr sz_b10_0) (own_allS (Or.inr sz_b10_0) (own_allS (Or.inr sz_b10_0) (own_allS (Or.inr sz_b10_0) (own_allS (Or.inr sz_b10_0) (own_allS (Or.inr le1) (own_allS (Or.inr sz_b10_0) own_all0))))))))))))))))))
      have sz_b66_0 : Array.size h0 ≤ b66_0 := Nat.le_trans KC79.1 le_b66_0
      have F80 := (own_E F60 K66)
      have F81 := (own_F (v := .null) F61 K66 (own_nr (sl_116 hw) (own_nr (sl_115 hw) (own_nr (sl_56 hw) (own_nr (sl_54 hw) (own_nr (sl_57 hw) (own_nr (sl_55 hw) (own_nl D48 (own_nl D48 (own_nl D48 (own_nl D48 (own_nl D48 (own_nl D48 (own_nl D48 (own_nl D48 (own_nl D48 (own_nr (sl_114 hw) (own_nl D48 own_nin0))))))))))))))))))
      have F82 := (own_F (v := .null) F62 K66 (own_nr (sl_78 hw) (own_nr (sl_76 hw) (own_nr (sl_74 hw) (own_nr (sl_72 hw) (own_nr (sl_75 hw) (own_nr (sl_73 hw) (own_nl D48 (own_nl D48 (own_nl D48 (own_nl D48 (own_nl D48 (own_nl D48 (own_nl D48 (own_nl D48 (own_nl D48 (own_nr (sl_112 hw) (own_nl D48 own_nin0))))))))))))))))))
      have F83 := (own_E F63 K66)
      have F84 := (own_E F64 K66)
      have F85 := (own_F (v := (.ref b1)) F65 K66 (own_nl (Ne.symm D48) (own_nl (Ne.symm D48) (own_nl (Ne.symm D48) (own_nl (Ne.symm D48) (own_nl (Ne.symm D48) (own_nl (Ne.symm D48) (own_nr (sl_54 hw) (own_nr (sl_55 hw) (own_nr (sl_56 hw) (own_nr (sl_57 hw) (own_nr (sl_5 hw) (own_nr (sl_6 hw) (own_nr (sl_115 hw) (own_nr (sl_116 hw) (own_nr (sl_113 hw) (own_nl (Ne.symm D48) (own_nr (sl_114 hw) own_nin0))))))))))))))))))
      rcases own_mask4 p0 with qL81 | qL81 | qL81 | qL81
      ·
        rw [qL81]
        refine own_aload Y66 hx (pc' := 83) (hb hby at_81) rfl rfl rfl ?_
        refine own_iload Y66 hx (pc' := 85) (hb hby at_83) rfl rfl ?_
        refine own_virtual Y66 hx (pc' := 88) (W := 0) (cl' := 7) (sl' := 62) (as' := [(.int (0 : Int32))]) (S' := []) (a := b10_0) hZ hown (own_w hw 161 rfl) (own_w hw 57 rfl) (notFace_of_selects (args := #[]) (mvT hZ (own_w hw 59 rfl))) (own_w hw 59 rfl) (own_w hw 58 rfl) (own_w hw 3 rfl) (own_w hw 60 rfl) (by decide) F84 (rm8_5 l Z a0 hw [] b10_0 b1 h66 n0 (own_sz Y66) F85) (hb hby at_85) rfl (by rw [hml]; rfl) rfl (lenOf pd__I_Lcom_example_napkintree_napkintree_balancing_MultiwayTree_Node_ rfl) rfl (by decide) (by decide) rfl rfl (by decide) (by decide) own_Same.sz (own_fixS (S2 := [(.ref b1)]) rfl (fun T86 Y86 => ?_))
        refine own_astore Y86 hx (pc' := 90) (Ls' := #[.val (.int p0), .val (.int p1), .val (.int p2), .val (.int p3), .val (.int (0 : Int32)), .val (.int (p3 &&& (3 : Int32))), .val (.int (0 : Int32)), .val (.int (0 : Int32)), .val (.ref b1), .val (.ref b3), .val (.ref b10_0), .val (.ref b1), .unset, .unset]) (hb hby at_88) rfl rfl rfl ?_
        refine own_aload Y86 hx (pc' := 92) (hb hby at_90) rfl rfl rfl ?_
        refine own_ifnullNo Y86 hx (pc' := 95) (hb hby at_92) rfl ?_
        refine own_aload Y86 hx (pc' := 97) (hb hby at_95) rfl rfl rfl ?_
        refine own_aload Y86 hx (pc' := 99) (hb hby at_97) rfl rfl rfl ?_
        refine own_acmp Y86 hx (pc' := 102) (same := false) (hb hby at_99) rfl rfl (decide_eq_false fun q => D48 (Value.ref.inj q)) (by decide) (by decide) ?_
        refine own_iload Y86 hx (pc' := 104) (hb hby at_102) rfl rfl ?_
        refine own_ifNo Y86 hx (pc' := 107) (hb hby at_104) rfl (by decide) ?_
        refine own_iconst Y86 hx (pc' := 108) (x := (1 : Int32)) (hb hby at_107) rfl (by decide) ?_
        refine own_goto Y86 hx (pc' := 112) (hb hby at_108) (by decide) (by decide) ?_
        refine own_aload Y86 hx (pc' := 114) (hb hby at_112) rfl rfl rfl ?_
        refine own_aload Y86 hx (pc' := 116) (hb hby at_114) rfl rfl rfl ?_
        refine own_acmp Y86 hx (pc' := 119) (same := true) (hb hby at_116) rfl rfl (decide_eq_true rfl) (by decide) (by decide) ?_
        refine own_iconst Y86 hx (pc' := 120) (x := (1 : Int32)) (hb hby at_119) rfl (by decide) ?_
        refine own_goto Y86 hx (pc' := 124) (hb hby at_120) (by decide) (by decide) ?_
        refine own_icmpNo Y86 hx (pc' := 127) (hb hby at_124) rfl (by decide) ?_
        refine own_aload Y86 hx (pc' := 129) (hb hby at_127) rfl rfl rfl ?_
        refine own_aload Y86 hx (pc' := 131) (hb hby at_129) rfl rfl rfl ?_
        refine own_virtual Y86 hx (pc' := 134) (W := 0) (cl' := 7) (sl' := 62) (as' := [(.ref b1)]) (S' := []) (a := b10_0) hZ hown (own_w hw 162 rfl) (own_w hw 163 rfl) (notFace_of_selects (args := #[]) (mvT hZ (own_w hw 165 rfl))) (own_w hw 165 rfl) (own_w hw 164 rfl) (own_w hw 3 rfl) (own_w hw 166 rfl) (by decide) F84 (rm20_34 l Z a0 hw [] b10_0 b1 h66 n0 (own_sz Y86) F85) (hb hby at_131) rfl (by rw [hml]; rfl) rfl (lenOf pd__Lcom_example_napkintree_napkintree_balancing_MultiwayTree_Node__I rfl) rfl (by decide) (by decide) rfl rfl (by decide) (by decide) own_Same.sz (own_fixS (S2 := [(.int (0 : Int32))]) rfl (fun T87 Y87 => ?_))
        refine own_iload Y87 hx (pc' := 136) (hb hby at_134) rfl rfl ?_
        refine own_icmpNo Y87 hx (pc' := 139) (hb hby at_136) rfl (by decide) ?_
        refine own_iconst Y87 hx (pc' := 140) (x := (1 : Int32)) (hb hby at_139) rfl (by decide) ?_
        refine own_goto Y87 hx (pc' := 144) (hb hby at_140) (by decide) (by decide) ?_
        refine own_istore Y87 hx (pc' := 146) (Ls' := #[.val (.int p0), .val (.int p1), .val (.int p2), .val (.int p3), .val (.int (0 : Int32)), .val (.int (p3 &&& (3 : Int32))), .val (.int (0 : Int32)), .val (.int (0 : Int32)), .val (.ref b1), .val (.ref b3), .val (.ref b10_0), .val (.ref b1), .val (.int (1 : Int32)), .unset]) (hb hby at_144) rfl rfl ?_
        refine own_aload Y87 hx (pc' := 148) (hb hby at_146) rfl rfl rfl ?_
        refine own_iload Y87 hx (pc' := 150) (hb hby at_148) rfl rfl ?_
        refine own_virtual Y87 hx (pc' := 153) (W := 0) (cl' := 7) (sl' := 62) (as' := [(.int (p3 &&& (3 : Int32)))]) (S' := []) (a := b1) hZ hown (own_w hw 161 rfl) (own_w hw 57 rfl) (notFace_of_selects (args := #[]) (mvT hZ (own_w hw 59 rfl))) (own_w hw 59 rfl) (own_w hw 58 rfl) (own_w hw 3 rfl) (own_w hw 60 rfl) (by decide) F80 (rm8_35 l Z a0 hw [] b1 (p3 &&& (3 : Int32)) h66 n0 (own_sz Y87) F81 F82 G66_0 G66_1) (hb hby at_150) rfl (by rw [hml]; rfl) rfl (lenOf pd__I_Lcom_example_napkintree_napkintree_balancing_MultiwayTree_Node_ rfl) rfl (by decide) (by decide) rfl rfl (by decide) (by decide) own_Same.sz (own_fixS (S2 := [.null]) rfl (fun T88 Y88 => ?_))
        refine own_ifnonnullNo Y88 hx (pc' := 156) (hb hby at_153) rfl ?_
        refine own_iconst Y88 hx (pc' := 157) (x := (1 : Int32)) (hb hby at_156) rfl (by decide) ?_
        refine own_goto Y88 hx (pc' := 161) (hb hby at_157) (by decide) (by decide) ?_
        refine own_istore Y88 hx (pc' := 163) (Ls' := #[.val (.int p0), .val (.int p1), .val (.int p2), .val (.int p3), .val (.int (0 : Int32)), .val (.int (p3 &&& (3 : Int32))), .val (.int (0 : Int32)), .val (.int (0 : Int32)), .val (.ref b1), .val (.ref b3), .val (.ref b10_0), .val (.ref b1), .val (.int (1 : Int32)), .val (.int (1 : Int32))]) (hb hby at_161) rfl rfl ?_
        refine own_iload Y88 hx (pc' := 165) (hb hby at_163) rfl rfl ?_
        refine own_ifNo Y88 hx (pc' := 168) (hb hby at_165) rfl (by decide) ?_
        refine own_iload Y88 hx (pc' := 170) (hb hby at_168) rfl rfl ?_
        refine own_ifNo Y88 hx (pc' := 173) (hb hby at_170) rfl (by decide) ?_
        refine own_iconst Y88 hx (pc' := 174) (x := (1 : Int32)) (hb hby at_173) rfl (by decide) ?_
        refine own_goto Y88 hx (pc' := 178) (hb hby at_174) (by decide) (by decide) ?_
        exact own_retN Y88 hx hlk Bd.returns rfl (by simp) (hb hby at_178) ⟨rfl, trivial⟩ (by decide) (by decide)
      ·
        rw [qL81]
        refine own_aload Y66 hx (pc' := 83) (hb hby at_81) rfl rfl rfl ?_
        refine own_iload Y66 hx (pc' := 85) (hb hby at_83) rfl rfl ?_
        refine own_virtual Y66 hx (pc' := 88) (W := 0) (cl' := 7) (sl' := 62) (as' := [(.int (1 : Int32))]) (S' := []) (a := b10_0) hZ hown (own_w hw 161 rfl) (own_w hw 57 rfl) (notFace_of_selects (args := #[]) (mvT hZ (own_w hw 59 rfl))) (own_w hw 59 rfl) (own_w hw 58 rfl) (own_w hw 3 rfl) (own_w hw 60 rfl) (by decide) F84 (rm8_36 l Z a0 hw [] b10_0 b66_0 h66 n0 (own_sz Y66) G66_14) (hb hby at_85) rfl (by rw [hml]; rfl) rfl (lenOf pd__I_Lcom_example_napkintree_napkintree_balancing_MultiwayTree_Node_ rfl) rfl (by decide) (by decide) rfl rfl (by decide) (by decide) own_Same.sz (own_fixS (S2 := [(.ref b66_0)]) rfl (fun T89 Y89 => ?_))
        refine own_astore Y89 hx (pc' := 90) (Ls' := #[.val (.int p0), .val (.int p1), .val (.int p2), .val (.int p3), .val (.int (1 : Int32)), .val (.int (p3 &&& (3 : Int32))), .val (.int (0 : Int32)), .val (.int (0 : Int32)), .val (.ref b1), .val (.ref b3), .val (.ref b10_0), .val (.ref b66_0), .unset, .unset]) (hb hby at_88) rfl rfl rfl ?_
        refine own_aload Y89 hx (pc' := 92) (hb hby at_90) rfl rfl rfl ?_
        refine own_ifnullNo Y89 hx (pc' := 95) (hb hby at_92) rfl ?_
        refine own_aload Y89 hx (pc' := 97) (hb hby at_95) rfl rfl rfl ?_
        refine own_aload Y89 hx (pc' := 99) (hb hby at_97) rfl rfl rfl ?_
        have D90 : b10_0 ≠ b66_0 := (Nat.ne_of_lt (Nat.lt_of_lt_of_le F64.lt le_b66_0))
        refine own_acmp Y89 hx (pc' := 102) (same := false) (hb hby at_99) rfl rfl (decide_eq_false fun q => (Ne.symm D90) (Value.ref.inj q)) (by decide) (by decide) ?_
        refine own_iload Y89 hx (pc' := 104) (hb hby at_102) rfl rfl ?_
        refine own_ifYes Y89 hx (pc' := 111) (hb hby at_104) (by decide) (by decide) (by decide) ?_
        refine own_iconst Y89 hx (pc' := 112) (x := (0 : Int32)) (hb hby at_111) rfl (by decide) ?_
        refine own_aload Y89 hx (pc' := 114) (hb hby at_112) rfl rfl rfl ?_
        refine own_aload Y89 hx (pc' := 116) (hb hby at_114) rfl rfl rfl ?_
        have D91 : b1 ≠ b66_0 := (Nat.ne_of_lt (Nat.lt_of_lt_of_le F60.lt le_b66_0))
        refine own_acmp Y89 hx (pc' := 123) (same := false) (hb hby at_116) rfl rfl (decide_eq_false fun q => (Ne.symm D91) (Value.ref.inj q)) (by decide) (by decide) ?_
        refine own_iconst Y89 hx (pc' := 124) (x := (0 : Int32)) (hb hby at_123) rfl (by decide) ?_
        refine own_icmpNo Y89 hx (pc' := 127) (hb hby at_124) rfl (by decide) ?_
        refine own_aload Y89 hx (pc' := 129) (hb hby at_127) rfl rfl rfl ?_
        refine own_aload Y89 hx (pc' := 131) (hb hby at_129) rfl rfl rfl ?_
        refine own_virtual Y89 hx (pc' := 134) (W := 0) (cl' := 7) (sl' := 62) (as' := [(.ref b66_0)]) (S' := []) (a := b10_0) hZ hown (own_w hw 162 rfl) (own_w hw 163 rfl) (notFace_of_selects (args := #[]) (mvT hZ (own_w hw 165 rfl))) (own_w hw 165 rfl) (own_w hw 164 rfl) (own_w hw 3 rfl) (own_w hw 166 rfl) (by decide) F84 (rm20_37 l Z a0 hw [] b10_0 b66_0 b1 h66 n0 (own_sz Y89) F85 (Ne.symm D91) G66_14) (hb hby at_131) rfl (by rw [hml]; rfl) rfl (lenOf pd__Lcom_example_napkintree_napkintree_balancing_MultiwayTree_Node__I rfl) rfl (by decide) (by decide) rfl rfl (by decide) (by decide) own_Same.sz (own_fixS (S2 := [(.int (1 : Int32))]) rfl (fun T92 Y92 => ?_))
        refine own_iload Y92 hx (pc' := 136) (hb hby at_134) rfl rfl ?_
        refine own_icmpNo Y92 hx (pc' := 139) (hb hby at_136) rfl (by decide) ?_
        refine own_iconst Y92 hx (pc' := 140) (x := (1 : Int32)) (hb hby at_139) rfl (by decide) ?_
        refine own_goto Y92 hx (pc' := 144) (hb hby at_140) (by decide) (by decide) ?_
        refine own_istore Y92 hx (pc' := 146) (Ls' := #[.val (.int p0), .val (.int p1), .val (.int p2), .val (.int p3), .val (.int (1 : Int32)), .val (.int (p3 &&& (3 : Int32))), .val (.int (0 : Int32)), .val (.int (0 : Int32)), .val (.ref b1), .val (.ref b3), .val (.ref b10_0), .val (.ref b66_0), .val (.int (1 : Int32)), .unset]) (hb hby at_144) rfl rfl ?_
        refine own_aload Y92 hx (pc' := 148) (hb hby at_146) rfl rfl rfl ?_
        refine own_iload Y92 hx (pc' := 150) (hb hby at_148) rfl rfl ?_
        refine own_virtual Y92 hx (pc' := 153) (W := 0) (cl' := 7) (sl' := 62) (as' := [(.int (p3 &&& (3 : Int32)))]) (S' := []) (a := b1) hZ hown (own_w hw 161 rfl) (own_w hw 57 rfl) (notFace_of_selects (args := #[]) (mvT hZ (own_w hw 59 rfl))) (own_w hw 59 rfl) (own_w hw 58 rfl) (own_w hw 3 rfl) (own_w hw 60 rfl) (by decide) F80 (rm8_35 l Z a0 hw [] b1 (p3 &&& (3 : Int32)) h66 n0 (own_sz Y92) F81 F82 G66_0 G66_1) (hb hby at_150) rfl (by rw [hml]; rfl) rfl (lenOf pd__I_Lcom_example_napkintree_napkintree_balancing_MultiwayTree_Node_ rfl) rfl (by decide) (by decide) rfl rfl (by decide) (by decide) own_Same.sz (own_fixS (S2 := [.null]) rfl (fun T93 Y93 => ?_))
        refine own_ifnonnullNo Y93 hx (pc' := 156) (hb hby at_153) rfl ?_
        refine own_iconst Y93 hx (pc' := 157) (x := (1 : Int32)) (hb hby at_156) rfl (by decide) ?_
        refine own_goto Y93 hx (pc' := 161) (hb hby at_157) (by decide) (by decide) ?_
        refine own_istore Y93 hx (pc' := 163) (Ls' := #[.val (.int p0), .val (.int p1), .val (.int p2), .val (.int p3), .val (.int (1 : Int32)), .val (.int (p3 &&& (3 : Int32))), .val (.int (0 : Int32)), .val (.int (0 : Int32)), .val (.ref b1), .val (.ref b3), .val (.ref b10_0), .val (.ref b66_0), .val (.int (1 : Int32)), .val (.int (1 : Int32))]) (hb hby at_161) rfl rfl ?_
        refine own_iload Y93 hx (pc' := 165) (hb hby at_163) rfl rfl ?_
        refine own_ifNo Y93 hx (pc' := 168) (hb hby at_165) rfl (by decide) ?_
        refine own_iload Y93 hx (pc' := 170) (hb hby at_168) rfl rfl ?_
        refine own_ifNo Y93 hx (pc' := 173) (hb hby at_170) rfl (by decide) ?_
        refine own_iconst Y93 hx (pc' := 174) (x := (1 : Int32)) (hb hby at_173) rfl (by decide) ?_
        refine own_goto Y93 hx (pc' := 178) (hb hby at_174) (by decide) (by decide) ?_
        exact own_retN Y93 hx hlk Bd.returns rfl (by simp) (hb hby at_178) ⟨rfl, trivial⟩ (by decide) (by decide)
      ·
        rw [qL81]
        refine own_aload Y66 hx (pc' := 83) (hb hby at_81) rfl rfl rfl ?_
        refine own_iload Y66 hx (pc' := 85) (hb hby at_83) rfl rfl ?_
        refine own_virtual Y66 hx (pc' := 88) (W := 0) (cl' := 7) (sl' := 62) (as' := [(.int (2 : Int32))]) (S' := []) (a := b10_0) hZ hown (own_w hw 161 rfl) (own_w hw 57 rfl) (notFace_of_selects (args := #[]) (mvT hZ (own_w hw 59 rfl))) (own_w hw 59 rfl) (own_w hw 58 rfl) (own_w hw 3 rfl) (own_w hw 60 rfl) (by decide) F84 (rm8_38 l Z a0 hw [] b10_0 b46_0 h66 n0 (own_sz Y66) G66_13) (hb hby at_85) rfl (by rw [hml]; rfl) rfl (lenOf pd__I_Lcom_example_napkintree_napkintree_balancing_MultiwayTree_Node_ rfl) rfl (by decide) (by decide) rfl rfl (by decide) (by decide) own_Same.sz (own_fixS (S2 := [(.ref b46_0)]) rfl (fun T94 Y94 => ?_))
        refine own_astore Y94 hx (pc' := 90) (Ls' := #[.val (.int p0), .val (.int p1), .val (.int p2), .val (.int p3), .val (.int (2 : Int32)), .val (.int (p3 &&& (3 : Int32))), .val (.int (0 : Int32)), .val (.int (0 : Int32)), .val (.ref b1), .val (.ref b3), .val (.ref b10_0), .val (.ref b46_0), .unset, .unset]) (hb hby at_88) rfl rfl rfl ?_
        refine own_aload Y94 hx (pc' := 92) (hb hby at_90) rfl rfl rfl ?_
        refine own_ifnullNo Y94 hx (pc' := 95) (hb hby at_92) rfl ?_
        refine own_aload Y94 hx (pc' := 97) (hb hby at_95) rfl rfl rfl ?_
        refine own_aload Y94 hx (pc' := 99) (hb hby at_97) rfl rfl rfl ?_
        have D95 : b10_0 ≠ b46_0 := (Nat.ne_of_lt (Nat.lt_of_lt_of_le G10_8.lt le_b46_0))
        refine own_acmp Y94 hx (pc' := 102) (same := false) (hb hby at_99) rfl rfl (decide_eq_false fun q => (Ne.symm D95) (Value.ref.inj q)) (by decide) (by decide) ?_
        refine own_iload Y94 hx (pc' := 104) (hb hby at_102) rfl rfl ?_
        refine own_ifYes Y94 hx (pc' := 111) (hb hby at_104) (by decide) (by decide) (by decide) ?_
        refine own_iconst Y94 hx (pc' := 112) (x := (0 : Int32)) (hb hby at_111) rfl (by decide) ?_
        refine own_aload Y94 hx (pc' := 114) (hb hby at_112) rfl rfl rfl ?_
        refine own_aload Y94 hx (pc' := 116) (hb hby at_114) rfl rfl rfl ?_
        have D96 : b1 ≠ b46_0 := (Nat.ne_of_lt (Nat.lt_of_lt_of_le F42.lt le_b46_0))
        refine own_acmp Y94 hx (pc' := 123) (same := false) (hb hby at_116) rfl rfl (decide_eq_false fun q => (Ne.symm D96) (Value.ref.inj q)) (by decide) (by decide) ?_
        refine own_iconst Y94 hx (pc' := 124) (x := (0 : Int32)) (hb hby at_123) rfl (by decide) ?_
        refine own_icmpNo Y94 hx (pc' := 127) (hb hby at_124) rfl (by decide) ?_
        refine own_aload Y94 hx (pc' := 129) (hb hby at_127) rfl rfl rfl ?_
        refine own_aload Y94 hx (pc' := 131) (hb hby at_129) rfl rfl rfl ?_
        have D98 : b46_0 ≠ b66_0 := (Nat.ne_of_lt (Nat.lt_of_lt_of_le G46_17.lt le_b66_0))
        refine own_virtual Y94 hx (pc' := 134) (W := 0) (cl' := 7) (sl' := 62) (as' := [(.ref b46_0)]) (S' := []) (a := b10_0) hZ hown (own_w hw 162 rfl) (own_w hw 163 rfl) (notFace_of_selects (args := #[]) (mvT hZ (own_w hw 165 rfl))) (own_w hw 165 rfl) (own_w hw 164 rfl) (own_w hw 3 rfl) (own_w hw 166 rfl) (by decide) F84 (rm20_39 l Z a0 hw [] b10_0 b46_0 b1 b66_0 h66 n0 (own_sz Y94) F85 (Ne.symm D96) G66_14 D98 G66_13) (hb hby at_131) rfl (by rw [hml]; rfl) rfl (lenOf pd__Lcom_example_napkintree_napkintree_balancing_MultiwayTree_Node__I rfl) rfl (by decide) (by decide) rfl rfl (by decide) (by decide) own_Same.sz (own_fixS (S2 := [(.int (2 : Int32))]) rfl (fun T97 Y97 => ?_))
        refine own_iload Y97 hx (pc' := 136) (hb hby at_134) rfl rfl ?_
        refine own_icmpNo Y97 hx (pc' := 139) (hb hby at_136) rfl (by decide) ?_
        refine own_iconst Y97 hx (pc' := 140) (x := (1 : Int32)) (hb hby at_139) rfl (by decide) ?_
        refine own_goto Y97 hx (pc' := 144) (hb hby at_140) (by decide) (by decide) ?_
        refine own_istore Y97 hx (pc' := 146) (Ls' := #[.val (.int p0), .val (.int p1), .val (.int p2), .val (.int p3), .val (.int (2 : Int32)), .val (.int (p3 &&& (3 : Int32))), .val (.int (0 : Int32)), .val (.int (0 : Int32)), .val (.ref b1), .val (.ref b3), .val (.ref b10_0), .val (.ref b46_0), .val (.int (1 : Int32)), .unset]) (hb hby at_144) rfl rfl ?_
        refine own_aload Y97 hx (pc' := 148) (hb hby at_146) rfl rfl rfl ?_
        refine own_iload Y97 hx (pc' := 150) (hb hby at_148) rfl rfl ?_
        refine own_virtual Y97 hx (pc' := 153) (W := 0) (cl' := 7) (sl' := 62) (as' := [(.int (p3 &&& (3 : Int32)))]) (S' := []) (a := b1) hZ hown (own_w hw 161 rfl) (own_w hw 57 rfl) (notFace_of_selects (args := #[]) (mvT hZ (own_w hw 59 rfl))) (own_w hw 59 rfl) (own_w hw 58 rfl) (own_w hw 3 rfl) (own_w hw 60 rfl) (by decide) F80 (rm8_35 l Z a0 hw [] b1 (p3 &&& (3 : Int32)) h66 n0 (own_sz Y97) F81 F82 G66_0 G66_1) (hb hby at_150) rfl (by rw [hml]; rfl) rfl (lenOf pd__I_Lcom_example_napkintree_napkintree_balancing_MultiwayTree_Node_ rfl) rfl (by decide) (by decide) rfl rfl (by decide) (by decide) own_Same.sz (own_fixS (S2 := [.null]) rfl (fun T99 Y99 => ?_))
        refine own_ifnonnullNo Y99 hx (pc' := 156) (hb hby at_153) rfl ?_
        refine own_iconst Y99 hx (pc' := 157) (x := (1 : Int32)) (hb hby at_156) rfl (by decide) ?_
        refine own_goto Y99 hx (pc' := 161) (hb hby at_157) (by decide) (by decide) ?_
        refine own_istore Y99 hx (pc' := 163) (Ls' := #[.val (.int p0), .val (.int p1), .val (.int p2), .val (.int p3), .val (.int (2 : Int32)), .val (.int (p3 &&& (3 : Int32))), .val (.int (0 : Int32)), .val (.int (0 : Int32)), .val (.ref b1), .val (.ref b3), .val (.ref b10_0), .val (.ref b46_0), .val (.int (1 : Int32)), .val (.int (1 : Int32))]) (hb hby at_161) rfl rfl ?_
        refine own_iload Y99 hx (pc' := 165) (hb hby at_163) rfl rfl ?_
        refine own_ifNo Y99 hx (pc' := 168) (hb hby at_165) rfl (by decide) ?_
        refine own_iload Y99 hx (pc' := 170) (hb hby at_168) rfl rfl ?_
        refine own_ifNo Y99 hx (pc' := 173) (hb hby at_170) rfl (by decide) ?_
        refine own_iconst Y99 hx (pc' := 174) (x := (1 : Int32)) (hb hby at_173) rfl (by decide) ?_
        refine own_goto Y99 hx (pc' := 178) (hb hby at_174) (by decide) (by decide) ?_
        exact own_retN Y99 hx hlk Bd.returns rfl (by simp) (hb hby at_178) ⟨rfl, trivial⟩ (by decide) (by decide)
      ·
        rw [qL81]
        refine own_aload Y66 hx (pc' := 83) (hb hby at_81) rfl rfl rfl ?_
        refine own_iload Y66 hx (pc' := 85) (hb hby at_83) rfl rfl ?_
        refine own_virtual Y66 hx (pc' := 88) (W := 0) (cl' := 7) (sl' := 62) (as' := [(.int (3 : Int32))]) (S' := []) (a := b10_0) hZ hown (own_w hw 161 rfl) (own_w hw 57 rfl) (notFace_of_selects (args := #[]) (mvT hZ (own_w hw 59 rfl))) (own_w hw 59 rfl) (own_w hw 58 rfl) (own_w hw 3 rfl) (own_w hw 60 rfl) (by decide) F84 (rm8_40 l Z a0 hw [] b10_0 b10_1 h66 n0 (own_sz Y66) G66_12) (hb hby at_85) rfl (by rw [hml]; rfl) rfl (lenOf pd__I_Lcom_example_napkintree_napkintree_balancing_MultiwayTree_Node_ rfl) rfl (by decide) (by decide) rfl rfl (by decide) (by decide) own_Same.sz (own_fixS (S2 := [(.ref b10_1)]) rfl (fun T100 Y100 => ?_))
        refine own_astore Y100 hx (pc' := 90) (Ls' := #[.val (.int p0), .val (.int p1), .val (.int p2), .val (.int p3), .val (.int (3 : Int32)), .val (.int (p3 &&& (3 : Int32))), .val (.int (0 : Int32)), .val (.int (0 : Int32)), .val (.ref b1), .val (.ref b3), .val (.ref b10_0), .val (.ref b10_1), .unset, .unset]) (hb hby at_88) rfl rfl rfl ?_
        refine own_aload Y100 hx (pc' := 92) (hb hby at_90) rfl rfl rfl ?_
        refine own_ifnullNo Y100 hx (pc' := 95) (hb hby at_92) rfl ?_
        refine own_aload Y100 hx (pc' := 97) (hb hby at_95) rfl rfl rfl ?_
        refine own_aload Y100 hx (pc' := 99) (hb hby at_97) rfl rfl rfl ?_
        refine own_acmp Y100 hx (pc' := 102) (same := false) (hb hby at_99) rfl rfl (decide_eq_false fun q => (Ne.symm G10_32) (Value.ref.inj q)) (by decide) (by decide) ?_
        refine own_iload Y100 hx (pc' := 104) (hb hby at_102) rfl rfl ?_
        refine own_ifYes Y100 hx (pc' := 111) (hb hby at_104) (by decide) (by decide) (by decide) ?_
        refine own_iconst Y100 hx (pc' := 112) (x := (0 : Int32)) (hb hby at_111) rfl (by decide) ?_
        refine own_aload Y100 hx (pc' := 114) (hb hby at_112) rfl rfl rfl ?_
        refine own_aload Y100 hx (pc' := 116) (hb hby at_114) rfl rfl rfl ?_
        have D101 : b1 ≠ b10_1 := (Nat.ne_of_lt (Nat.lt_of_lt_of_le F12.lt le_b10_1))
        refine own_acmp Y100 hx (pc' := 123) (same := false) (hb hby at_116) rfl rfl (decide_eq_false fun q => (Ne.symm D101) (Value.ref.inj q)) (by decide) (by decide) ?_
        refine own_iconst Y100 hx (pc' := 124) (x := (0 : Int32)) (hb hby at_123) rfl (by decide) ?_
        refine own_icmpNo Y100 hx (pc' := 127) (hb hby at_124) rfl (by decide) ?_
        refine own_aload Y100 hx (pc' := 129) (hb hby at_127) rfl rfl rfl ?_
        refine own_aload Y100 hx (pc' := 131) (hb hby at_129) rfl rfl rfl ?_
        have F103 := (own_E G10_20 K46)
        have D104 : b10_1 ≠ b66_0 := (Nat.ne_of_lt (Nat.lt_of_lt_of_le F103.lt le_b66_0))
        have D105 : b10_1 ≠ b46_0 := (Nat.ne_of_lt (Nat.lt_of_lt_of_le G10_20.lt le_b46_0))
        refine own_virtual Y100 hx (pc' := 134) (W := 0) (cl' := 7) (sl' := 62) (as' := [(.ref b10_1)]) (S' := []) (a := b10_0) hZ hown (own_w hw 162 rfl) (own_w hw 163 rfl) (notFace_of_selects (args := #[]) (mvT hZ (own_w hw 165 rfl))) (own_w hw 165 rfl) (own_w hw 164 rfl) (own_w hw 3 rfl) (own_w hw 166 rfl) (by decide) F84 (rm20_41 l Z a0 hw [] b10_0 b10_1 b1 b66_0 b46_0 h66 n0 (own_sz Y100) F85 (Ne.symm D101) G66_14 D104 G66_13 D105) (hb hby at_131) rfl (by rw [hml]; rfl) rfl (lenOf pd__Lcom_example_napkintree_napkintree_balancing_MultiwayTree_Node__I rfl) rfl (by decide) (by decide) rfl rfl (by decide) (by decide) own_Same.sz (own_fixS (S2 := [(.int (3 : Int32))]) rfl (fun T102 Y102 => ?_))
        refine own_iload Y102 hx (pc' := 136) (hb hby at_134) rfl rfl ?_
        refine own_icmpNo Y102 hx (pc' := 139) (hb hby at_136) rfl (by decide) ?_
        refine own_iconst Y102 hx (pc' := 140) (x := (1 : Int32)) (hb hby at_139) rfl (by decide) ?_
        refine own_goto Y102 hx (pc' := 144) (hb hby at_140) (by decide) (by decide) ?_
        refine own_istore Y102 hx (pc' := 146) (Ls' := #[.val (.int p0), .val (.int p1), .val (.int p2), .val (.int p3), .val (.int (3 : Int32)), .val (.int (p3 &&& (3 : Int32))), .val (.int (0 : Int32)), .val (.int (0 : Int32)), .val (.ref b1), .val (.ref b3), .val (.ref b10_0), .val (.ref b10_1), .val (.int (1 : Int32)), .unset]) (hb hby at_144) rfl rfl ?_
        refine own_aload Y102 hx (pc' := 148) (hb hby at_146) rfl rfl rfl ?_
        refine own_iload Y102 hx (pc' := 150) (hb hby at_148) rfl rfl ?_
        refine own_virtual Y102 hx (pc' := 153) (W := 0) (cl' := 7) (sl' := 62) (as' := [(.int (p3 &&& (3 : Int32)))]) (S' := []) (a := b1) hZ hown (own_w hw 161 rfl) (own_w hw 57 rfl) (notFace_of_selects (args := #[]) (mvT hZ (own_w hw 59 rfl))) (own_w hw 59 rfl) (own_w hw 58 rfl) (own_w hw 3 rfl) (own_w hw 60 rfl) (by decide) F80 (rm8_35 l Z a0 hw [] b1 (p3 &&& (3 : Int32)) h66 n0 (own_sz Y102) F81 F82 G66_0 G66_1) (hb hby at_150) rfl (by rw [hml]; rfl) rfl (lenOf pd__I_Lcom_example_napkintree_napkintree_balancing_MultiwayTree_Node_ rfl) rfl (by decide) (by decide) rfl rfl (by decide) (by decide) own_Same.sz (own_fixS (S2 := [.null]) rfl (fun T106 Y106 => ?_))
        refine own_ifnonnullNo Y106 hx (pc' := 156) (hb hby at_153) rfl ?_
        refine own_iconst Y106 hx (pc' := 157) (x := (1 : Int32)) (hb hby at_156) rfl (by decide) ?_
        refine own_goto Y106 hx (pc' := 161) (hb hby at_157) (by decide) (by decide) ?_
        refine own_istore Y106 hx (pc' := 163) (Ls' := #[.val (.int p0), .val (.int p1), .val (.int p2), .val (.int p3), .val (.int (3 : Int32)), .val (.int (p3 &&& (3 : Int32))), .val (.int (0 : Int32)), .val (.int (0 : Int32)), .val (.ref b1), .val (.ref b3), .val (.ref b10_0), .val (.ref b10_1), .val (.int (1 : Int32)), .val (.int (1 : Int32))]) (hb hby at_161) rfl rfl ?_
        refine own_iload Y106 hx (pc' := 165) (hb hby at_163) rfl rfl ?_
        refine own_ifNo Y106 hx (pc' := 168) (hb hby at_165) rfl (by decide) ?_
        refine own_iload Y106 hx (pc' := 170) (hb hby at_168) rfl rfl ?_
        refine own_ifNo Y106 hx (pc' := 173) (hb hby at_170) rfl (by decide) ?_
        refine own_iconst Y106 hx (pc' := 174) (x := (1 : Int32)) (hb hby at_173) rfl (by decide) ?_
        refine own_goto Y106 hx (pc' := 178) (hb hby at_174) (by decide) (by decide) ?_
        exact own_retN Y106 hx hlk Bd.returns rfl (by simp) (hb hby at_178) ⟨rfl, trivial⟩ (by decide) (by decide)
    ·
      rw [qL72]
      refine own_aload Y46 hx (pc' := 74) (hb hby at_72) rfl rfl rfl ?_
      refine own_aload Y46 hx (pc' := 76) (hb hby at_74) rfl rfl rfl ?_
      refine own_iload Y46 hx (pc' := 78) (hb hby at_76) rfl rfl ?_
      have F108 := (own_St F47 K46 (own_allS (own_plain F42) (own_allS (own_plain F42) (own_allS (own_plain F42) (own_allS (own_plain F42) (own_allS (own_plain F42) (own_allS (own_plain F42) (own_allS (own_plain G10_8) (own_allS (own_plain G10_8) (own_allS (own_plain G10_8) (own_allS (own_plain G10_8) (own_allS (own_plain G10_8) (own_allS (own_plain G10_8) (own_allS (own_plain G10_8) (own_allS (own_plain G10_8) (own_allS (own_plain G10_8) (own_allS (own_plain F42) (own_allS (own_plain G10_8) own_all0))))))))))))))))))
      have D109 : b10_0 ≠ b46_0 := (Nat.ne_of_lt (Nat.lt_of_lt_of_le G10_8.lt le_b46_0))
      have F110 := (own_St F49 K46 (own_allS (own_plain F42) (own_allS (own_plain F42) (own_allS (own_plain F42) (own_allS (own_plain F42) (own_allS (own_plain F42) (own_allS (own_plain F42) (own_allS (own_plain G10_8) (own_allS (own_plain G10_8) (own_allS (own_plain G10_8) (own_allS (own_plain G10_8) (own_allS (own_plain G10_8) (own_allS (own_plain G10_8) (own_allS (own_plain G10_8) (own_allS (own_plain G10_8) (own_allS (own_plain G10_8) (own_allS (own_plain F42) (own_allS (own_plain G10_8) own_all0))))))))))))))))))
      have D111 : b3 ≠ b10_0 := (Nat.ne_of_lt (Nat.lt_of_lt_of_le F11.lt le_b10_0))
      have F112 := (own_F (v := (.int (0 : Int32))) F50 K46 (own_nl (Ne.symm D13) (own_nl (Ne.symm D13) (own_nl (Ne.symm D13) (own_nl (Ne.symm D13) (own_nl (Ne.symm D13) (own_nl (Ne.symm D13) (own_nl D111 (own_nl D111 (own_nl D111 (own_nl D111 (own_nl D111 (own_nl D111 (own_nl D111 (own_nl D111 (own_nl D111 (own_nl (Ne.symm D13) (own_nl D111 own_nin0))))))))))))))))))
      have F113 := (own_St F51 K46 (own_allS (own_plain F42) (own_allS (own_plain F42) (own_allS (own_plain F42) (own_allS (own_plain F42) (own_allS (own_plain F42) (own_allS (own_plain F42) (own_allS (own_plain G10_8) (own_allS (own_plain G10_8) (own_allS (own_plain G10_8) (own_allS (own_plain G10_8) (own_allS (own_plain G10_8) (own_allS (own_plain G10_8) (own_allS (own_plain G10_8) (own_allS (own_plain G10_8) (own_allS (own_plain G10_8) (own_allS (own_plain F42) (own_allS (own_plain G10_8) own_all0))))))))))))))))))
      have F114 := (own_E F52 K46)
      have D115 : w_SPLIT ≠ b10_0 := (Nat.ne_of_lt (Nat.lt_of_lt_of_le F24.lt le_b10_0))
      have F116 := (own_F (v := (.int (1 : Int32))) F54 K46 (own_nl D53 (own_nl D53 (own_nl D53 (own_nl D53 (own_nl D53 (own_nl D53 (own_nl D115 (own_nl D115 (own_nl D115 (own_nl D115 (own_nl D115 (own_nl D115 (own_nl D115 (own_nl D115 (own_nl D115 (own_nl D53 (own_nl D115 own_nin0))))))))))))))))))
      have F117 := (own_St F55 K46 (own_allS (own_plain F42) (own_allS (own_plain F42) (own_allS (own_plain F42) (own_allS (own_plain F42) (own_allS (own_plain F42) (own_allS (own_plain F42) (own_allS (own_plain G10_8) (own_allS (own_plain G10_8) (own_allS (own_plain G10_8) (own_allS (own_plain G10_8) (own_allS (own_plain G10_8) (own_allS (own_plain G10_8) (own_allS (own_plain G10_8) (own_allS (own_plain G10_8) (own_allS (own_plain G10_8) (own_allS (own_plain F42) (own_allS (own_plain G10_8) own_all0))))))))))))))))))
      have F118 := (own_E F56 K46)
      have D119 : w_ABSORBED ≠ b10_0 := (Nat.ne_of_lt (Nat.lt_of_lt_of_le F30.lt le_b10_0))
      have F120 := (own_F (v := (.int (0 : Int32))) F58 K46 (own_nl D57 (own_nl D57 (own_nl D57 (own_nl D57 (own_nl D57 (own_nl D57 (own_nl D119 (own_nl D119 (own_nl D119 (own_nl D119 (own_nl D119 (own_nl D119 (own_nl D119 (own_nl D119 (own_nl D119 (own_nl D57 (own_nl D119 own_nin0))))))))))))))))))
      refine own_virtualUp Y46 hx (pc' := 81) (W := 0) (cl' := 7) (sl' := 62) (as' := [(.ref b10_0), (.int (1 : Int32))]) (S' := []) (a := b3) hZ hown (own_w hw 158 rfl) (own_w hw 159 rfl) (own_w hw 52 rfl) (own_w hw 160 rfl) (own_w hw 53 rfl) (own_w hw 19 rfl) (own_w hw 55 rfl) (by decide) F63 (rm7_45 l Z a0 hw [] b3 b10_0 b46_0 w_NULL_KEY b1 b10_1 w_SPLIT w_ABSORBED h46 n0 (own_sz Y46) F64 G46_14 G46_19 G46_21 G46_17 G46_23 G46_24 (Nat.le_trans Z0 sz_b46_0) G46_26 F108 G46_27 G46_8 D109 G46_6 (Nat.le_trans Z0 sz_b10_0) G46_9 G46_7 F65 G46_13 G46_12 F110 F63 F112 F113 F114 F116 G46_28 F117 F118 F120 G46_16) (hb hby at_78) rfl (by rw [hml]; rfl) rfl (lenOf pd__Lcom_example_napkintree_napkintree_balancing_MultiwayTree_Node_I_V rfl) rfl (by decide) (by decide) rfl rfl (by decide) (by decide) P7_45_sz (own_fixR (S2 := []) rfl (fun T107 h107 Y107 R107 => ?_))
      obtain ⟨b107_0, K107, le_b107_0, G107_0, G107_1, G107_2, G107_3, G107_4, G107_5, G107_6, G107_7, G107_8, G107_9, G107_10, G107_11, G107_12, G107_13, G107_14, G107_15, G107_16, G107_17, G107_18, G107_19, G107_20, G107_21, G107_22, G107_23, G107_24, G107_25⟩ := R107
      have KC121 : own_Kp h0 h46 [] := (KC59.trans K46 (own_allS (Or.inr le1) (own_allS (Or.inr le1) (own_allS (Or.inr le1) (own_allS (Or.inr le1) (own_allS (Or.inr le1) (own_allS (Or.inr le1) (own_allS (Or.inr sz_b10_0) (own_allS (Or.inr sz_b10_0) (own_allS (Or.inr sz_b10_0) (own_allS (Or.inr sz_b10_0) (own_allS (Or.inr sz_b10_0) (own_allS (Or.inr sz_b10_0) (own_allS (Or.inr sz_b10_0) (own_allS (Or.inr sz_b10_0) (own_allS (Or.inr sz_b10_0) (own_allS (Or.inr le1) (own_allS (Or.inr sz_b10_0) own_all0))))))))))))))))))
      have sz_b107_0 : Array.size h0 ≤ b107_0 := Nat.le_trans KC121.1 le_b107_0
      have F122 := (own_E F60 K107)
      have D123 : b1 ≠ b46_0 := (Nat.ne_of_lt (Nat.lt_of_lt_of_le F42.lt le_b46_0))
      have F124 := (own_F (v := .null) F61 K107 (own_nl D123 (own_nl D123 (own_nl D123 (own_nl D123 (own_nl D123 (own_nl D123 (own_nl D48 (own_nl D48 (own_nl D48 (own_nl D48 (own_nl D48 (own_nl D48 (own_nl D123 (own_nl D48 own_nin0)))))))))))))))
      have F125 := (own_F (v := .null) F62 K107 (own_nl D123 (own_nl D123 (own_nl D123 (own_nl D123 (own_nl D123 (own_nl D123 (own_nl D48 (own_nl D48 (own_nl D48 (own_nl D48 (own_nl D48 (own_nl D48 (own_nl D123 (own_nl D48 own_nin0)))))))))))))))
      have F126 := (own_F (v := .null) G46_0 K107 (own_nl D123 (own_nl D123 (own_nl D123 (own_nl D123 (own_nl D123 (own_nl D123 (own_nl D48 (own_nl D48 (own_nl D48 (own_nl D48 (own_nl D48 (own_nl D48 (own_nl D123 (own_nl D48 own_nin0)))))))))))))))
      have F127 := (own_F (v := .null) G46_1 K107 (own_nl D123 (own_nl D123 (own_nl D123 (own_nl D123 (own_nl D123 (own_nl D123 (own_nl D48 (own_nl D48 (own_nl D48 (own_nl D48 (own_nl D48 (own_nl D48 (own_nl D123 (own_nl D48 own_nin0)))))))))))))))
      have F128 := (own_E F63 K107)
      have F129 := (own_E F64 K107)
      have F130 := (own_F (v := (.ref b1)) F65 K107 (own_nl D109 (own_nl D109 (own_nl D109 (own_nl D109 (own_nl D109 (own_nl D109 (own_nr (sl_54 hw) (own_nr (sl_55 hw) (own_nr (sl_56 hw) (own_nr (sl_57 hw) (own_nr (sl_115 hw) (own_nr (sl_116 hw) (own_nl D109 (own_nr (sl_114 hw) own_nin0)))))))))))))))
      have F131 := (own_F (v := (.ref b46_0)) G46_14 K107 (own_nl D109 (own_nl D109 (own_nl D109 (own_nl D109 (own_nl D109 (own_nl D109 (own_nr (sl_72 hw) (own_nr (sl_73 hw) (own_nr (sl_74 hw) (own_nr (sl_75 hw) (own_nr (sl_76 hw) (own_nr (sl_78 hw) (own_nl D109 (own_nr (sl_112 hw) own_nin0)))))))))))))))
      rcases own_mask4 p0 with qL81 | qL81 | qL81 | qL81
      ·
        rw [qL81]
        refine own_aload Y107 hx (pc' := 83) (hb hby at_81) rfl rfl rfl ?_
        refine own_iload Y107 hx (pc' := 85) (hb hby at_83) rfl rfl ?_
        refine own_virtual Y107 hx (pc' := 88) (W := 0) (cl' := 7) (sl' := 62) (as' := [(.int (0 : Int32))]) (S' := []) (a := b10_0) hZ hown (own_w hw 161 rfl) (own_w hw 57 rfl) (notFace_of_selects (args := #[]) (mvT hZ (own_w hw 59 rfl))) (own_w hw 59 rfl) (own_w hw 58 rfl) (own_w hw 3 rfl) (own_w hw 60 rfl) (by decide) F129 (rm8_5 l Z a0 hw [] b10_0 b1 h107 n0 (own_sz Y107) F130) (hb hby at_85) rfl (by rw [hml]; rfl) rfl (lenOf pd__I_Lcom_example_napkintree_napkintree_balancing_MultiwayTree_Node_ rfl) rfl (by decide) (by decide) rfl rfl (by decide) (by decide) own_Same.sz (own_fixS (S2 := [(.ref b1)]) rfl (fun T132 Y132 => ?_))
        refine own_astore Y132 hx (pc' := 90) (Ls' := #[.val (.int p0), .val (.int p1), .val (.int p2), .val (.int p3), .val (.int (0 : Int32)), .val (.int (p3 &&& (3 : Int32))), .val (.int (0 : Int32)), .val (.int (1 : Int32)), .val (.ref b1), .val (.ref b3), .val (.ref b10_0), .val (.ref b1), .unset, .unset]) (hb hby at_88) rfl rfl rfl ?_
        refine own_aload Y132 hx (pc' := 92) (hb hby at_90) rfl rfl rfl ?_
        refine own_ifnullNo Y132 hx (pc' := 95) (hb hby at_92) rfl ?_
        refine own_aload Y132 hx (pc' := 97) (hb hby at_95) rfl rfl rfl ?_
        refine own_aload Y132 hx (pc' := 99) (hb hby at_97) rfl rfl rfl ?_
        refine own_acmp Y132 hx (pc' := 102) (same := false) (hb hby at_99) rfl rfl (decide_eq_false fun q => D48 (Value.ref.inj q)) (by decide) (by decide) ?_
        refine own_iload Y132 hx (pc' := 104) (hb hby at_102) rfl rfl ?_
        refine own_ifNo Y132 hx (pc' := 107) (hb hby at_104) rfl (by decide) ?_
        refine own_iconst Y132 hx (pc' := 108) (x := (1 : Int32)) (hb hby at_107) rfl (by decide) ?_
        refine own_goto Y132 hx (pc' := 112) (hb hby at_108) (by decide) (by decide) ?_
        refine own_aload Y132 hx (pc' := 114) (hb hby at_112) rfl rfl rfl ?_
        refine own_aload Y132 hx (pc' := 116) (hb hby at_114) rfl rfl rfl ?_
        refine own_acmp Y132 hx (pc' := 119) (same := true) (hb hby at_116) rfl rfl (decide_eq_true rfl) (by decide) (by decide) ?_
        refine own_iconst Y132 hx (pc' := 120) (x := (1 : Int32)) (hb hby at_119) rfl (by decide) ?_
        refine own_goto Y132 hx (pc' := 124) (hb hby at_120) (by decide) (by decide) ?_
        refine own_icmpNo Y132 hx (pc' := 127) (hb hby at_124) rfl (by decide) ?_
        refine own_aload Y132 hx (pc' := 129) (hb hby at_127) rfl rfl rfl ?_
        refine own_aload Y132 hx (pc' := 131) (hb hby at_129) rfl rfl rfl ?_
        refine own_virtual Y132 hx (pc' := 134) (W := 0) (cl' := 7) (sl' := 62) (as' := [(.ref b1)]) (S' := []) (a := b10_0) hZ hown (own_w hw 162 rfl) (own_w hw 163 rfl) (notFace_of_selects (args := #[]) (mvT hZ (own_w hw 165 rfl))) (own_w hw 165 rfl) (own_w hw 164 rfl) (own_w hw 3 rfl) (own_w hw 166 rfl) (by decide) F129 (rm20_34 l Z a0 hw [] b10_0 b1 h107 n0 (own_sz Y132) F130) (hb hby at_131) rfl (by rw [hml]; rfl) rfl (lenOf pd__Lcom_example_napkintree_napkintree_balancing_MultiwayTree_Node__I rfl) rfl (by decide) (by decide) rfl rfl (by decide) (by decide) own_Same.sz (own_fixS (S2 := [(.int (0 : Int32))]) rfl (fun T133 Y133 => ?_))
        refine own_iload Y133 hx (pc' := 136) (hb hby at_134) rfl rfl ?_
        refine own_icmpNo Y133 hx (pc' := 139) (hb hby at_136) rfl (by decide) ?_
        refine own_iconst Y133 hx (pc' := 140) (x := (1 : Int32)) (hb hby at_139) rfl (by decide) ?_
        refine own_goto Y133 hx (pc' := 144) (hb hby at_140) (by decide) (by decide) ?_
        refine own_istore Y133 hx (pc' := 146) (Ls' := #[.val (.int p0), .val (.int p1), .val (.int p2), .val (.int p3), .val (.int (0 : Int32)), .val (.int (p3 &&& (3 : Int32))), .val (.int (0 : Int32)), .val (.int (1 : Int32)), .val (.ref b1), .val (.ref b3), .val (.ref b10_0), .val (.ref b1), .val (.int (1 : Int32)), .unset]) (hb hby at_144) rfl rfl ?_
        refine own_aload Y133 hx (pc' := 148) (hb hby at_146) rfl rfl rfl ?_
        refine own_iload Y133 hx (pc' := 150) (hb hby at_148) rfl rfl ?_
        refine own_virtual Y133 hx (pc' := 153) (W := 0) (cl' := 7) (sl' := 62) (as' := [(.int (p3 &&& (3 : Int32)))]) (S' := []) (a := b1) hZ hown (own_w hw 161 rfl) (own_w hw 57 rfl) (notFace_of_selects (args := #[]) (mvT hZ (own_w hw 59 rfl))) (own_w hw 59 rfl) (own_w hw 58 rfl) (own_w hw 3 rfl) (own_w hw 60 rfl) (by decide) F122 (rm8_35 l Z a0 hw [] b1 (p3 &&& (3 : Int32)) h107 n0 (own_sz Y133) F124 F125 F126 F127) (hb hby at_150) rfl (by rw [hml]; rfl) rfl (lenOf pd__I_Lcom_example_napkintree_napkintree_balancing_MultiwayTree_Node_ rfl) rfl (by decide) (by decide) rfl rfl (by decide) (by decide) own_Same.sz (own_fixS (S2 := [.null]) rfl (fun T134 Y134 => ?_))
        refine own_ifnonnullNo Y134 hx (pc' := 156) (hb hby at_153) rfl ?_
        refine own_iconst Y134 hx (pc' := 157) (x := (1 : Int32)) (hb hby at_156) rfl (by decide) ?_
        refine own_goto Y134 hx (pc' := 161) (hb hby at_157) (by decide) (by decide) ?_
        refine own_istore Y134 hx (pc' := 163) (Ls' := #[.val (.int p0), .val (.int p1), .val (.int p2), .val (.int p3), .val (.int (0 : Int32)), .val (.int (p3 &&& (3 : Int32))), .val (.int (0 : Int32)), .val (.int (1 : Int32)), .val (.ref b1), .val (.ref b3), .val (.ref b10_0), .val (.ref b1), .val (.int (1 : Int32)), .val (.int (1 : Int32))]) (hb hby at_161) rfl rfl ?_
        refine own_iload Y134 hx (pc' := 165) (hb hby at_163) rfl rfl ?_
        refine own_ifNo Y134 hx (pc' := 168) (hb hby at_165) rfl (by decide) ?_
        refine own_iload Y134 hx (pc' := 170) (hb hby at_168) rfl rfl ?_
        refine own_ifNo Y134 hx (pc' := 173) (hb hby at_170) rfl (by decide) ?_
        refine own_iconst Y134 hx (pc' := 174) (x := (1 : Int32)) (hb hby at_173) rfl (by decide) ?_
        refine own_goto Y134 hx (pc' := 178) (hb hby at_174) (by decide) (by decide) ?_
        exact own_retN Y134 hx hlk Bd.returns rfl (by simp) (hb hby at_178) ⟨rfl, trivial⟩ (by decide) (by decide)
      ·
        rw [qL81]
        refine own_aload Y107 hx (pc' := 83) (hb hby at_81) rfl rfl rfl ?_
        refine own_iload Y107 hx (pc' := 85) (hb hby at_83) rfl rfl ?_
        refine own_virtual Y107 hx (pc' := 88) (W := 0) (cl' := 7) (sl' := 62) (as' := [(.int (1 : Int32))]) (S' := []) (a := b10_0) hZ hown (own_w hw 161 rfl) (own_w hw 57 rfl) (notFace_of_selects (args := #[]) (mvT hZ (own_w hw 59 rfl))) (own_w hw 59 rfl) (own_w hw 58 rfl) (own_w hw 3 rfl) (own_w hw 60 rfl) (by decide) F129 (rm8_36 l Z a0 hw [] b10_0 b46_0 h107 n0 (own_sz Y107) F131) (hb hby at_85) rfl (by rw [hml]; rfl) rfl (lenOf pd__I_Lcom_example_napkintree_napkintree_balancing_MultiwayTree_Node_ rfl) rfl (by decide) (by decide) rfl rfl (by decide) (by decide) own_Same.sz (own_fixS (S2 := [(.ref b46_0)]) rfl (fun T135 Y135 => ?_))
        refine own_astore Y135 hx (pc' := 90) (Ls' := #[.val (.int p0), .val (.int p1), .val (.int p2), .val (.int p3), .val (.int (1 : Int32)), .val (.int (p3 &&& (3 : Int32))), .val (.int (0 : Int32)), .val (.int (1 : Int32)), .val (.ref b1), .val (.ref b3), .val (.ref b10_0), .val (.ref b46_0), .unset, .unset]) (hb hby at_88) rfl rfl rfl ?_
        refine own_aload Y135 hx (pc' := 92) (hb hby at_90) rfl rfl rfl ?_
        refine own_ifnullNo Y135 hx (pc' := 95) (hb hby at_92) rfl ?_
        refine own_aload Y135 hx (pc' := 97) (hb hby at_95) rfl rfl rfl ?_
        refine own_aload Y135 hx (pc' := 99) (hb hby at_97) rfl rfl rfl ?_
        refine own_acmp Y135 hx (pc' := 102) (same := false) (hb hby at_99) rfl rfl (decide_eq_false fun q => (Ne.symm D109) (Value.ref.inj q)) (by decide) (by decide) ?_
        refine own_iload Y135 hx (pc' := 104) (hb hby at_102) rfl rfl ?_
        refine own_ifYes Y135 hx (pc' := 111) (hb hby at_104) (by decide) (by decide) (by decide) ?_
        refine own_iconst Y135 hx (pc' := 112) (x := (0 : Int32)) (hb hby at_111) rfl (by decide) ?_
        refine own_aload Y135 hx (pc' := 114) (hb hby at_112) rfl rfl rfl ?_
        refine own_aload Y135 hx (pc' := 116) (hb hby at_114) rfl rfl rfl ?_
        refine own_acmp Y135 hx (pc' := 123) (same := false) (hb hby at_116) rfl rfl (decide_eq_false fun q => (Ne.symm D123) (Value.ref.inj q)) (by decide) (by decide) ?_
        refine own_iconst Y135 hx (pc' := 124) (x := (0 : Int32)) (hb hby at_123) rfl (by decide) ?_
        refine own_icmpNo Y135 hx (pc' := 127) (hb hby at_124) rfl (by decide) ?_
        refine own_aload Y135 hx (pc' := 129) (hb hby at_127) rfl rfl rfl ?_
        refine own_aload Y135 hx (pc' := 131) (hb hby at_129) rfl rfl rfl ?_
        refine own_virtual Y135 hx (pc' := 134) (W := 0) (cl' := 7) (sl' := 62) (as' := [(.ref b46_0)]) (S' := []) (a := b10_0) hZ hown (own_w hw 162 rfl) (own_w hw 163 rfl) (notFace_of_selects (args := #[]) (mvT hZ (own_w hw 165 rfl))) (own_w hw 165 rfl) (own_w hw 164 rfl) (own_w hw 3 rfl) (own_w hw 166 rfl) (by decide) F129 (rm20_37 l Z a0 hw [] b10_0 b46_0 b1 h107 n0 (own_sz Y135) F130 (Ne.symm D123) F131) (hb hby at_131) rfl (by rw [hml]; rfl) rfl (lenOf pd__Lcom_example_napkintree_napkintree_balancing_MultiwayTree_Node__I rfl) rfl (by decide) (by decide) rfl rfl (by decide) (by decide) own_Same.sz (own_fixS (S2 := [(.int (1 : Int32))]) rfl (fun T136 Y136 => ?_))
        refine own_iload Y136 hx (pc' := 136) (hb hby at_134) rfl rfl ?_
        refine own_icmpNo Y136 hx (pc' := 139) (hb hby at_136) rfl (by decide) ?_
        refine own_iconst Y136 hx (pc' := 140) (x := (1 : Int32)) (hb hby at_139) rfl (by decide) ?_
        refine own_goto Y136 hx (pc' := 144) (hb hby at_140) (by decide) (by decide) ?_
        refine own_istore Y136 hx (pc' := 146) (Ls' := #[.val (.int p0), .val (.int p1), .val (.int p2), .val (.int p3), .val (.int (1 : Int32)), .val (.int (p3 &&& (3 : Int32))), .val (.int (0 : Int32)), .val (.int (1 : Int32)), .val (.ref b1), .val (.ref b3), .val (.ref b10_0), .val (.ref b46_0), .val (.int (1 : Int32)), .unset]) (hb hby at_144) rfl rfl ?_
        refine own_aload Y136 hx (pc' := 148) (hb hby at_146) rfl rfl rfl ?_
        refine own_iload Y136 hx (pc' := 150) (hb hby at_148) rfl rfl ?_
        refine own_virtual Y136 hx (pc' := 153) (W := 0) (cl' := 7) (sl' := 62) (as' := [(.int (p3 &&& (3 : Int32)))]) (S' := []) (a := b1) hZ hown (own_w hw 161 rfl) (own_w hw 57 rfl) (notFace_of_selects (args := #[]) (mvT hZ (own_w hw 59 rfl))) (own_w hw 59 rfl) (own_w hw 58 rfl) (own_w hw 3 rfl) (own_w hw 60 rfl) (by decide) F122 (rm8_35 l Z a0 hw [] b1 (p3 &&& (3 : Int32)) h107 n0 (own_sz Y136) F124 F125 F126 F127) (hb hby at_150) rfl (by rw [hml]; rfl) rfl (lenOf pd__I_Lcom_example_napkintree_napkintree_balancing_MultiwayTree_Node_ rfl) rfl (by decide) (by decide) rfl rfl (by decide) (by decide) own_Same.sz (own_fixS (S2 := [.null]) rfl (fun T137 Y137 => ?_))
        refine own_ifnonnullNo Y137 hx (pc' := 156) (hb hby at_153) rfl ?_
        refine own_iconst Y137 hx (pc' := 157) (x := (1 : Int32)) (hb hby at_156) rfl (by decide) ?_
        refine own_goto Y137 hx (pc' := 161) (hb hby at_157) (by decide) (by decide) ?_
        refine own_istore Y137 hx (pc' := 163) (Ls' := #[.val (.int p0), .val (.int p1), .val (.int p2), .val (.int p3), .val (.int (1 : Int32)), .val (.int (p3 &&& (3 : Int32))), .val (.int (0 : Int32)), .val (.int (1 : Int32)), .val (.ref b1), .val (.ref b3), .val (.ref b10_0), .val (.ref b46_0), .val (.int (1 : Int32)), .val (.int (1 : Int32))]) (hb hby at_161) rfl rfl ?_
        refine own_iload Y137 hx (pc' := 165) (hb hby at_163) rfl rfl ?_
        refine own_ifNo Y137 hx (pc' := 168) (hb hby at_165) rfl (by decide) ?_
        refine own_iload Y137 hx (pc' := 170) (hb hby at_168) rfl rfl ?_
        refine own_ifNo Y137 hx (pc' := 173) (hb hby at_170) rfl (by decide) ?_
        refine own_iconst Y137 hx (pc' := 174) (x := (1 : Int32)) (hb hby at_173) rfl (by decide) ?_
        refine own_goto Y137 hx (pc' := 178) (hb hby at_174) (by decide) (by decide) ?_
        exact own_retN Y137 hx hlk Bd.returns rfl (by simp) (hb hby at_178) ⟨rfl, trivial⟩ (by decide) (by decide)
      ·
        rw [qL81]
        refine own_aload Y107 hx (pc' := 83) (hb hby at_81) rfl rfl rfl ?_
        refine own_iload Y107 hx (pc' := 85) (hb hby at_83) rfl rfl ?_
        refine own_virtual Y107 hx (pc' := 88) (W := 0) (cl' := 7) (sl' := 62) (as' := [(.int (2 : Int32))]) (S' := []) (a := b10_0) hZ hown (own_w hw 161 rfl) (own_w hw 57 rfl) (notFace_of_selects (args := #[]) (mvT hZ (own_w hw 59 rfl))) (own_w hw 59 rfl) (own_w hw 58 rfl) (own_w hw 3 rfl) (own_w hw 60 rfl) (by decide) F129 (rm8_38 l Z a0 hw [] b10_0 b107_0 h107 n0 (own_sz Y107) G107_11) (hb hby at_85) rfl (by rw [hml]; rfl) rfl (lenOf pd__I_Lcom_example_napkintree_napkintree_balancing_MultiwayTree_Node_ rfl) rfl (by decide) (by decide) rfl rfl (by decide) (by decide) own_Same.sz (own_fixS (S2 := [(.ref b107_0)]) rfl (fun T138 Y138 => ?_))
        refine own_astore Y138 hx (pc' := 90) (Ls' := #[.val (.int p0), .val (.int p1), .val (.int p2), .val (.int p3), .val (.int (2 : Int32)), .val (.int (p3 &&& (3 : Int32))), .val (.int (0 : Int32)), .val (.int (1 : Int32)), .val (.ref b1), .val (.ref b3), .val (.ref b10_0), .val (.ref b107_0), .unset, .unset]) (hb hby at_88) rfl rfl rfl ?_
        refine own_aload Y138 hx (pc' := 92) (hb hby at_90) rfl rfl rfl ?_
        refine own_ifnullNo Y138 hx (pc' := 95) (hb hby at_92) rfl ?_
        refine own_aload Y138 hx (pc' := 97) (hb hby at_95) rfl rfl rfl ?_
        refine own_aload Y138 hx (pc' := 99) (hb hby at_97) rfl rfl rfl ?_
        have D139 : b10_0 ≠ b107_0 := (Nat.ne_of_lt (Nat.lt_of_lt_of_le F64.lt le_b107_0))
        refine own_acmp Y138 hx (pc' := 102) (same := false) (hb hby at_99) rfl rfl (decide_eq_false fun q => (Ne.symm D139) (Value.ref.inj q)) (by decide) (by decide) ?_
        refine own_iload Y138 hx (pc' := 104) (hb hby at_102) rfl rfl ?_
        refine own_ifYes Y138 hx (pc' := 111) (hb hby at_104) (by decide) (by decide) (by decide) ?_
        refine own_iconst Y138 hx (pc' := 112) (x := (0 : Int32)) (hb hby at_111) rfl (by decide) ?_
        refine own_aload Y138 hx (pc' := 114) (hb hby at_112) rfl rfl rfl ?_
        refine own_aload Y138 hx (pc' := 116) (hb hby at_114) rfl rfl rfl ?_
        have D140 : b1 ≠ b107_0 := (Nat.ne_of_lt (Nat.lt_of_lt_of_le F60.lt le_b107_0))
        refine own_acmp Y138 hx (pc' := 123) (same := false) (hb hby at_116) rfl rfl (decide_eq_false fun q => (Ne.symm D140) (Value.ref.inj q)) (by decide) (by decide) ?_
        refine own_iconst Y138 hx (pc' := 124) (x := (0 : Int32)) (hb hby at_123) rfl (by decide) ?_
        refine own_icmpNo Y138 hx (pc' := 127) (hb hby at_124) rfl (by decide) ?_
        refine own_aload Y138 hx (pc' := 129) (hb hby at_127) rfl rfl rfl ?_
        refine own_aload Y138 hx (pc' := 131) (hb hby at_129) rfl rfl rfl ?_
        have D142 : b46_0 ≠ b107_0 := (Nat.ne_of_lt (Nat.lt_of_lt_of_le G46_17.lt le_b107_0))
        refine own_virtual Y138 hx (pc' := 134) (W := 0) (cl' := 7) (sl' := 62) (as' := [(.ref b107_0)]) (S' := []) (a := b10_0) hZ hown (own_w hw 162 rfl) (own_w hw 163 rfl) (notFace_of_selects (args := #[]) (mvT hZ (own_w hw 165 rfl))) (own_w hw 165 rfl) (own_w hw 164 rfl) (own_w hw 3 rfl) (own_w hw 166 rfl) (by decide) F129 (rm20_39 l Z a0 hw [] b10_0 b107_0 b1 b46_0 h107 n0 (own_sz Y138) F130 (Ne.symm D140) F131 (Ne.symm D142) G107_11) (hb hby at_131) rfl (by rw [hml]; rfl) rfl (lenOf pd__Lcom_example_napkintree_napkintree_balancing_MultiwayTree_Node__I rfl) rfl (by decide) (by decide) rfl rfl (by decide) (by decide) own_Same.sz (own_fixS (S2 := [(.int (2 : Int32))]) rfl (fun T141 Y141 => ?_))
        refine own_iload Y141 hx (pc' := 136) (hb hby at_134) rfl rfl ?_
        refine own_icmpNo Y141 hx (pc' := 139) (hb hby at_136) rfl (by decide) ?_
        refine own_iconst Y141 hx (pc' := 140) (x := (1 : Int32)) (hb hby at_139) rfl (by decide) ?_
        refine own_goto Y141 hx (pc' := 144) (hb hby at_140) (by decide) (by decide) ?_
        refine own_istore Y141 hx (pc' := 146) (Ls' := #[.val (.int p0), .val (.int p1), .val (.int p2), .val (.int p3), .val (.int (2 : Int32)), .val (.int (p3 &&& (3 : Int32))), .val (.int (0 : Int32)), .val (.int (1 : Int32)), .val (.ref b1), .val (.ref b3), .val (.ref b10_0), .val (.ref b107_0), .val (.int (1 : Int32)), .unset]) (hb hby at_144) rfl rfl ?_
        refine own_aload Y141 hx (pc' := 148) (hb hby at_146) rfl rfl rfl ?_
        refine own_iload Y141 hx (pc' := 150) (hb hby at_148) rfl rfl ?_
        refine own_virtual Y141 hx (pc' := 153) (W := 0) (cl' := 7) (sl' := 62) (as' := [(.int (p3 &&& (3 : Int32)))]) (S' := []) (a := b1) hZ hown (own_w hw 161 rfl) (own_w hw 57 rfl) (notFace_of_selects (args := #[]) (mvT hZ (own_w hw 59 rfl))) (own_w hw 59 rfl) (own_w hw 58 rfl) (own_w hw 3 rfl) (own_w hw 60 rfl) (by decide) F122 (rm8_35 l Z a0 hw [] b1 (p3 &&& (3 : Int32)) h107 n0 (own_sz Y141) F124 F125 F126 F127) (hb hby at_150) rfl (by rw [hml]; rfl) rfl (lenOf pd__I_Lcom_example_napkintree_napkintree_balancing_MultiwayTree_Node_ rfl) rfl (by decide) (by decide) rfl rfl (by decide) (by decide) own_Same.sz (own_fixS (S2 := [.null]) rfl (fun T143 Y143 => ?_))
        refine own_ifnonnullNo Y143 hx (pc' := 156) (hb hby at_153) rfl ?_
        refine own_iconst Y143 hx (pc' := 157) (x := (1 : Int32)) (hb hby at_156) rfl (by decide) ?_
        refine own_goto Y143 hx (pc' := 161) (hb hby at_157) (by decide) (by decide) ?_
        refine own_istore Y143 hx (pc' := 163) (Ls' := #[.val (.int p0), .val (.int p1), .val (.int p2), .val (.int p3), .val (.int (2 : Int32)), .val (.int (p3 &&& (3 : Int32))), .val (.int (0 : Int32)), .val (.int (1 : Int32)), .val (.ref b1), .val (.ref b3), .val (.ref b10_0), .val (.ref b107_0), .val (.int (1 : Int32)), .val (.int (1 : Int32))]) (hb hby at_161) rfl rfl ?_
        refine own_iload Y143 hx (pc' := 165) (hb hby at_163) rfl rfl ?_
        refine own_ifNo Y143 hx (pc' := 168) (hb hby at_165) rfl (by decide) ?_
        refine own_iload Y143 hx (pc' := 170) (hb hby at_168) rfl rfl ?_
        refine own_ifNo Y143 hx (pc' := 173) (hb hby at_170) rfl (by decide) ?_
        refine own_iconst Y143 hx (pc' := 174) (x := (1 : Int32)) (hb hby at_173) rfl (by decide) ?_
        refine own_goto Y143 hx (pc' := 178) (hb hby at_174) (by decide) (by decide) ?_
        exact own_retN Y143 hx hlk Bd.returns rfl (by simp) (hb hby at_178) ⟨rfl, trivial⟩ (by decide) (by decide)
      ·
        rw [qL81]
        refine own_aload Y107 hx (pc' := 83) (hb hby at_81) rfl rfl rfl ?_
        refine own_iload Y107 hx (pc' := 85) (hb hby at_83) rfl rfl ?_
        refine own_virtual Y107 hx (pc' := 88) (W := 0) (cl' := 7) (sl' := 62) (as' := [(.int (3 : Int32))]) (S' := []) (a := b10_0) hZ hown (own_w hw 161 rfl) (own_w hw 57 rfl) (notFace_of_selects (args := #[]) (mvT hZ (own_w hw 59 rfl))) (own_w hw 59 rfl) (own_w hw 58 rfl) (own_w hw 3 rfl) (own_w hw 60 rfl) (by decide) F129 (rm8_40 l Z a0 hw [] b10_0 b10_1 h107 n0 (own_sz Y107) G107_10) (hb hby at_85) rfl (by rw [hml]; rfl) rfl (lenOf pd__I_Lcom_example_napkintree_napkintree_balancing_MultiwayTree_Node_ rfl) rfl (by decide) (by decide) rfl rfl (by decide) (by decide) own_Same.sz (own_fixS (S2 := [(.ref b10_1)]) rfl (fun T144 Y144 => ?_))
        refine own_astore Y144 hx (pc' := 90) (Ls' := #[.val (.int p0), .val (.int p1), .val (.int p2), .val (.int p3), .val (.int (3 : Int32)), .val (.int (p3 &&& (3 : Int32))), .val (.int (0 : Int32)), .val (.int (1 : Int32)), .val (.ref b1), .val (.ref b3), .val (.ref b10_0), .val (.ref b10_1), .unset, .unset]) (hb hby at_88) rfl rfl rfl ?_
        refine own_aload Y144 hx (pc' := 92) (hb hby at_90) rfl rfl rfl ?_
        refine own_ifnullNo Y144 hx (pc' := 95) (hb hby at_92) rfl ?_
        refine own_aload Y144 hx (pc' := 97) (hb hby at_95) rfl rfl rfl ?_
        refine own_aload Y144 hx (pc' := 99) (hb hby at_97) rfl rfl rfl ?_
        refine own_acmp Y144 hx (pc' := 102) (same := false) (hb hby at_99) rfl rfl (decide_eq_false fun q => (Ne.symm G10_32) (Value.ref.inj q)) (by decide) (by decide) ?_
        refine own_iload Y144 hx (pc' := 104) (hb hby at_102) rfl rfl ?_
        refine own_ifYes Y144 hx (pc' := 111) (hb hby at_104) (by decide) (by decide) (by decide) ?_
        refine own_iconst Y144 hx (pc' := 112) (x := (0 : Int32)) (hb hby at_111) rfl (by decide) ?_
        refine own_aload Y144 hx (pc' := 114) (hb hby at_112) rfl rfl rfl ?_
        refine own_aload Y144 hx (pc' := 116) (hb hby at_114) rfl rfl rfl ?_
        have D145 : b1 ≠ b10_1 := (Nat.ne_of_lt (Nat.lt_of_lt_of_le F12.lt le_b10_1))
        refine own_acmp Y144 hx (pc' := 123) (same := false) (hb hby at_116) rfl rfl (decide_eq_false fun q => (Ne.symm D145) (Value.ref.inj q)) (by decide) (by decide) ?_
        refine own_iconst Y144 hx (pc' := 124) (x := (0 : Int32)) (hb hby at_123) rfl (by decide) ?_
        refine own_icmpNo Y144 hx (pc' := 127) (hb hby at_124) rfl (by decide) ?_
        refine own_aload Y144 hx (pc' := 129) (hb hby at_127) rfl rfl rfl ?_
        refine own_aload Y144 hx (pc' := 131) (hb hby at_129) rfl rfl rfl ?_
        have D147 : b10_1 ≠ b46_0 := (Nat.ne_of_lt (Nat.lt_of_lt_of_le G10_20.lt le_b46_0))
        have F148 := (own_E G10_20 K46)
        have D149 : b10_1 ≠ b107_0 := (Nat.ne_of_lt (Nat.lt_of_lt_of_le F148.lt le_b107_0))
        refine own_virtual Y144 hx (pc' := 134) (W := 0) (cl' := 7) (sl' := 62) (as' := [(.ref b10_1)]) (S' := []) (a := b10_0) hZ hown (own_w hw 162 rfl) (own_w hw 163 rfl) (notFace_of_selects (args := #[]) (mvT hZ (own_w hw 165 rfl))) (own_w hw 165 rfl) (own_w hw 164 rfl) (own_w hw 3 rfl) (own_w hw 166 rfl) (by decide) F129 (rm20_41 l Z a0 hw [] b10_0 b10_1 b1 b46_0 b107_0 h107 n0 (own_sz Y144) F130 (Ne.symm D145) F131 D147 G107_11 D149) (hb hby at_131) rfl (by rw [hml]; rfl) rfl (lenOf pd__Lcom_example_napkintree_napkintree_balancing_MultiwayTree_Node__I rfl) rfl (by decide) (by decide) rfl rfl (by decide) (by decide) own_Same.sz (own_fixS (S2 := [(.int (3 : Int32))]) rfl (fun T146 Y146 => ?_))
        refine own_iload Y146 hx (pc' := 136) (hb hby at_134) rfl rfl ?_
        refine own_icmpNo Y146 hx (pc' := 139) (hb hby at_136) rfl (by decide) ?_
        refine own_iconst Y146 hx (pc' := 140) (x := (1 : Int32)) (hb hby at_139) rfl (by decide) ?_
        refine own_goto Y146 hx (pc' := 144) (hb hby at_140) (by decide) (by decide) ?_
        refine own_istore Y146 hx (pc' := 146) (Ls' := #[.val (.int p0), .val (.int p1), .val (.int p2), .val (.int p3), .val (.int (3 : Int32)), .val (.int (p3 &&& (3 : Int32))), .val (.int (0 : Int32)), .val (.int (1 : Int32)), .val (.ref b1), .val (.ref b3), .val (.ref b10_0), .val (.ref b10_1), .val (.int (1 : Int32)), .unset]) (hb hby at_144) rfl rfl ?_
        refine own_aload Y146 hx (pc' := 148) (hb hby at_146) rfl rfl rfl ?_
        refine own_iload Y146 hx (pc' := 150) (hb hby at_148) rfl rfl ?_
        refine own_virtual Y146 hx (pc' := 153) (W := 0) (cl' := 7) (sl' := 62) (as' := [(.int (p3 &&& (3 : Int32)))]) (S' := []) (a := b1) hZ hown (own_w hw 161 rfl) (own_w hw 57 rfl) (notFace_of_selects (args := #[]) (mvT hZ (own_w hw 59 rfl))) (own_w hw 59 rfl) (own_w hw 58 rfl) (own_w hw 3 rfl) (own_w hw 60 rfl) (by decide) F122 (rm8_35 l Z a0 hw [] b1 (p3 &&& (3 : Int32)) h107 n0 (own_sz Y146) F124 F125 F126 F127) (hb hby at_150) rfl (by rw [hml]; rfl) rfl (lenOf pd__I_Lcom_example_napkintree_napkintree_balancing_MultiwayTree_Node_ rfl) rfl (by decide) (by decide) rfl rfl (by decide) (by decide) own_Same.sz (own_fixS (S2 := [.null]) rfl (fun T150 Y150 => ?_))
        refine own_ifnonnullNo Y150 hx (pc' := 156) (hb hby at_153) rfl ?_
        refine own_iconst Y150 hx (pc' := 157) (x := (1 : Int32)) (hb hby at_156) rfl (by decide) ?_
        refine own_goto Y150 hx (pc' := 161) (hb hby at_157) (by decide) (by decide) ?_
        refine own_istore Y150 hx (pc' := 163) (Ls' := #[.val (.int p0), .val (.int p1), .val (.int p2), .val (.int p3), .val (.int (3 : Int32)), .val (.int (p3 &&& (3 : Int32))), .val (.int (0 : Int32)), .val (.int (1 : Int32)), .val (.ref b1), .val (.ref b3), .val (.ref b10_0), .val (.ref b10_1), .val (.int (1 : Int32)), .val (.int (1 : Int32))]) (hb hby at_161) rfl rfl ?_
        refine own_iload Y150 hx (pc' := 165) (hb hby at_163) rfl rfl ?_
        refine own_ifNo Y150 hx (pc' := 168) (hb hby at_165) rfl (by decide) ?_
        refine own_iload Y150 hx (pc' := 170) (hb hby at_168) rfl rfl ?_
        refine own_ifNo Y150 hx (pc' := 173) (hb hby at_170) rfl (by decide) ?_
        refine own_iconst Y150 hx (pc' := 174) (x := (1 : Int32)) (hb hby at_173) rfl (by decide) ?_
        refine own_goto Y150 hx (pc' := 178) (hb hby at_174) (by decide) (by decide) ?_
        exact own_retN Y150 hx hlk Bd.returns rfl (by simp) (hb hby at_178) ⟨rfl, trivial⟩ (by decide) (by decide)
    ·
      rw [qL72]
      refine own_aload Y46 hx (pc' := 74) (hb hby at_72) rfl rfl rfl ?_
      refine own_aload Y46 hx (pc' := 76) (hb hby at_74) rfl rfl rfl ?_
      refine own_iload Y46 hx (pc' := 78) (hb hby at_76) rfl rfl ?_
      have D152 : b1 ≠ b10_1 := (Nat.ne_of_lt (Nat.lt_of_lt_of_le F12.lt le_b10_1))
      have F153 := (own_F (v := .null) G10_22 K46 (own_nl (Ne.symm D152) (own_nl (Ne.symm D152) (own_nl (Ne.symm D152) (own_nl (Ne.symm D152) (own_nl (Ne.symm D152) (own_nl (Ne.symm D152) (own_nl (Ne.symm G10_32) (own_nl (Ne.symm G10_32) (own_nl (Ne.symm G10_32) (own_nl (Ne.symm G10_32) (own_nl (Ne.symm G10_32) (own_nl (Ne.symm G10_32) (own_nl (Ne.symm G10_32) (own_nl (Ne.symm G10_32) (own_nl (Ne.symm G10_32) (own_nl (Ne.symm D152) (own_nl (Ne.symm G10_32) own_nin0))))))))))))))))))
      have F154 := (own_F (v := .null) G10_24 K46 (own_nl (Ne.symm D152) (own_nl (Ne.symm D152) (own_nl (Ne.symm D152) (own_nl (Ne.symm D152) (own_nl (Ne.symm D152) (own_nl (Ne.symm D152) (own_nl (Ne.symm G10_32) (own_nl (Ne.symm G10_32) (own_nl (Ne.symm G10_32) (own_nl (Ne.symm G10_32) (own_nl (Ne.symm G10_32) (own_nl (Ne.symm G10_32) (own_nl (Ne.symm G10_32) (own_nl (Ne.symm G10_32) (own_nl (Ne.symm G10_32) (own_nl (Ne.symm D152) (own_nl (Ne.symm G10_32) own_nin0))))))))))))))))))
      have F155 := (own_E G10_20 K46)
      have F156 := (own_F (v := .null) G10_26 K46 (own_nl (Ne.symm D152) (own_nl (Ne.symm D152) (own_nl (Ne.symm D152) (own_nl (Ne.symm D152) (own_nl (Ne.symm D152) (own_nl (Ne.symm D152) (own_nl (Ne.symm G10_32) (own_nl (Ne.symm G10_32) (own_nl (Ne.symm G10_32) (own_nl (Ne.symm G10_32) (own_nl (Ne.symm G10_32) (own_nl (Ne.symm G10_32) (own_nl (Ne.symm G10_32) (own_nl (Ne.symm G10_32) (own_nl (Ne.symm G10_32) (own_nl (Ne.symm D152) (own_nl (Ne.symm G10_32) own_nin0))))))))))))))))))
      have F157 := (own_F (v := .null) G10_27 K46 (own_nl (Ne.symm D152) (own_nl (Ne.symm D152) (own_nl (Ne.symm D152) (own_nl (Ne.symm D152) (own_nl (Ne.symm D152) (own_nl (Ne.symm D152) (own_nl (Ne.symm G10_32) (own_nl (Ne.symm G10_32) (own_nl (Ne.symm G10_32) (own_nl (Ne.symm G10_32) (own_nl (Ne.symm G10_32) (own_nl (Ne.symm G10_32) (own_nl (Ne.symm G10_32) (own_nl (Ne.symm G10_32) (own_nl (Ne.symm G10_32) (own_nl (Ne.symm D152) (own_nl (Ne.symm G10_32) own_nin0))))))))))))))))))
      have F158 := (own_F (v := .null) G10_29 K46 (own_nl (Ne.symm D152) (own_nl (Ne.symm D152) (own_nl (Ne.symm D152) (own_nl (Ne.symm D152) (own_nl (Ne.symm D152) (own_nl (Ne.symm D152) (own_nl (Ne.symm G10_32) (own_nl (Ne.symm G10_32) (own_nl (Ne.symm G10_32) (own_nl (Ne.symm G10_32) (own_nl (Ne.symm G10_32) (own_nl (Ne.symm G10_32) (own_nl (Ne.symm G10_32) (own_nl (Ne.symm G10_32) (own_nl (Ne.symm G10_32) (own_nl (Ne.symm D152) (own_nl (Ne.symm G10_32) own_nin0))))))))))))))))))
      have F159 := (own_St F47 K46 (own_allS (own_plain F42) (own_allS (own_plain F42) (own_allS (own_plain F42) (own_allS (own_plain F42) (own_allS (own_plain F42) (own_allS (own_plain F42) (own_allS (own_plain G10_8) (own_allS (own_plain G10_8) (own_allS (own_plain G10_8) (own_allS (own_plain G10_8) (own_allS (own_plain G10_8) (own_allS (own_plain G10_8) (own_allS (own_plain G10_8) (own_allS (own_plain G10_8) (own_allS (own_plain G10_8) (own_allS (own_plain F42) (own_allS (own_plain G10_8) own_all0))))))))))))))))))
      have F160 := (own_F (v := .null) G10_30 K46 (own_nl (Ne.symm D152) (own_nl (Ne.symm D152) (own_nl (Ne.symm D152) (own_nl (Ne.symm D152) (own_nl (Ne.symm D152) (own_nl (Ne.symm D152) (own_nl (Ne.symm G10_32) (own_nl (Ne.symm G10_32) (own_nl (Ne.symm G10_32) (own_nl (Ne.symm G10_32) (own_nl (Ne.symm G10_32) (own_nl (Ne.symm G10_32) (own_nl (Ne.symm G10_32) (own_nl (Ne.symm G10_32) (own_nl (Ne.symm G10_32) (own_nl (Ne.symm D152) (own_nl (Ne.symm G10_32) own_nin0))))))))))))))))))
      have F161 := (own_St F49 K46 (own_allS (own_plain F42) (own_allS (own_plain F42) (own_allS (own_plain F42) (own_allS (own_plain F42) (own_allS (own_plain F42) (own_allS (own_plain F42) (own_allS (own_plain G10_8) (own_allS (own_plain G10_8) (own_allS (own_plain G10_8) (own_allS (own_plain G10_8) (own_allS (own_plain G10_8) (own_allS (own_plain G10_8) (own_allS (own_plain G10_8) (own_allS (own_plain G10_8) (own_allS (own_plain G10_8) (own_allS (own_plain F42) (own_allS (own_plain G10_8) own_all0))))))))))))))))))
      have D162 : b3 ≠ b10_0 := (Nat.ne_of_lt (Nat.lt_of_lt_of_le F11.lt le_b10_0))
      have F163 := (own_F (v := (.int (0 : Int32))) F50 K46 (own_nl (Ne.symm D13) (own_nl (Ne.symm D13) (own_nl (Ne.symm D13) (own_nl (Ne.symm D13) (own_nl (Ne.symm D13) (own_nl (Ne.symm D13) (own_nl D162 (own_nl D162 (own_nl D162 (own_nl D162 (own_nl D162 (own_nl D162 (own_nl D162 (own_nl D162 (own_nl D162 (own_nl (Ne.symm D13) (own_nl D162 own_nin0))))))))))))))))))
      have F164 := (own_St F51 K46 (own_allS (own_plain F42) (own_allS (own_plain F42) (own_allS (own_plain F42) (own_allS (own_plain F42) (own_allS (own_plain F42) (own_allS (own_plain F42) (own_allS (own_plain G10_8) (own_allS (own_plain G10_8) (own_allS (own_plain G10_8) (own_allS (own_plain G10_8) (own_allS (own_plain G10_8) (own_allS (own_plain G10_8) (own_allS (own_plain G10_8) (own_allS (own_plain G10_8) (own_allS (own_plain G10_8) (own_allS (own_plain F42) (own_allS (own_plain G10_8) own_all0))))))))))))))))))
      have F165 := (own_E F52 K46)
      have D166 : w_SPLIT ≠ b10_0 := (Nat.ne_of_lt (Nat.lt_of_lt_of_le F24.lt le_b10_0))
      have F167 := (own_F (v := (.int (1 : Int32))) F54 K46 (own_nl D53 (own_nl D53 (own_nl D53 (own_nl D53 (own_nl D53 (own_nl D53 (own_nl D166 (own_nl D166 (own_nl D166 (own_nl D166 (own_nl D166 (own_nl D166 (own_nl D166 (own_nl D166 (own_nl D166 (own_nl D53 (own_nl D166 own_nin0))))))))))))))))))
      have F168 := (own_F (v := (.int (2 : Int32))) G10_31 K46 (own_nl (Ne.symm D152) (own_nl (Ne.symm D152) (own_nl (Ne.symm D152) (own_nl (Ne.symm D152) (own_nl (Ne.symm D152) (own_nl (Ne.symm D152) (own_nl (Ne.symm G10_32) (own_nl (Ne.symm G10_32) (own_nl (Ne.symm G10_32) (own_nl (Ne.symm G10_32) (own_nl (Ne.symm G10_32) (own_nl (Ne.symm G10_32) (own_nl (Ne.symm G10_32) (own_nl (Ne.symm G10_32) (own_nl (Ne.symm G10_32) (own_nl (Ne.symm D152) (own_nl (Ne.symm G10_32) own_nin0))))))))))))))))))
      have F169 := (own_St F55 K46 (own_allS (own_plain F42) (own_allS (own_plain F42) (own_allS (own_plain F42) (own_allS (own_plain F42) (own_allS (own_plain F42) (own_allS (own_plain F42) (own_allS (own_plain G10_8) (own_allS (own_plain G10_8) (own_allS (own_plain G10_8) (own_allS (own_plain G10_8) (own_allS (own_plain G10_8) (own_allS (own_plain G10_8) (own_allS (own_plain G10_8) (own_allS (own_plain G10_8) (own_allS (own_plain G10_8) (own_allS (own_plain F42) (own_allS (own_plain G10_8) own_all0))))))))))))))))))
      have F170 := (own_E F56 K46)
      have D171 : w_ABSORBED ≠ b10_0 := (Nat.ne_of_lt (Nat.lt_of_lt_of_le F30.lt le_b10_0))
      have F172 := (own_F (v := (.int (0 : Int32))) F58 K46 (own_nl D57 (own_nl D57 (own_nl D57 (own_nl D57 (own_nl D57 (own_nl D57 (own_nl D171 (own_nl D171 (own_nl D171 (own_nl D171 (own_nl D171 (own_nl D171 (own_nl D171 (own_nl D171 (own_nl D171 (own_nl D57 (own_nl D171 own_nin0))))))))))))))))))
      refine own_virtualUp Y46 hx (pc' := 81) (W := 0) (cl' := 7) (sl' := 62) (as' := [(.ref b10_0), (.int (2 : Int32))]) (S' := []) (a := b3) hZ hown (own_w hw 158 rfl) (own_w hw 159 rfl) (own_w hw 52 rfl) (own_w hw 160 rfl) (own_w hw 53 rfl) (own_w hw 19 rfl) (own_w hw 55 rfl) (by decide) F63 (rm7_49 l Z a0 hw [] b3 b10_0 b10_1 w_NULL_KEY b1 w_SPLIT w_ABSORBED h46 n0 (own_sz Y46) F64 G46_13 F153 F154 F155 F156 F157 (Nat.le_trans Z0 sz_b10_1) F158 F159 F160 G46_6 G10_32 (Nat.le_trans Z0 sz_b10_0) G46_7 F65 G46_12 F161 F63 F163 F164 F165 F167 F168 F169 F170 F172 G46_16) (hb hby at_78) rfl (by rw [hml]; rfl) rfl (lenOf pd__Lcom_example_napkintree_napkintree_balancing_MultiwayTree_Node_I_V rfl) rfl (by decide) (by decide) rfl rfl (by decide) (by decide) P7_49_sz (own_fixR (S2 := []) rfl (fun T151 h151 Y151 R151 => ?_))
      obtain ⟨b151_0, K151, le_b151_0, G151_0, G151_1, G151_2, G151_3, G151_4, G151_5, G151_6, G151_7, G151_8, G151_9, G151_10, G151_11, G151_12, G151_13, G151_14, G151_15, G151_16, G151_17, G151_18, G151_19, G151_20, G151_21, G151_22⟩ := R151
      have KC173 : own_Kp h0 h46 [] := (KC59.trans K46 (own_allS (Or.inr le1) (own_allS (Or.inr le1) (own_allS (Or.inr le1) (own_allS (Or.inr le1) (own_allS (Or.inr le1) (own_allS (Or.inr le1) (own_allS (Or.inr sz_b10_0) (own_allS (Or.inr sz_b10_0) (own_allS (Or.inr sz_b10_0) (own_allS (Or.inr sz_b10_0) (own_allS (Or.inr sz_b10_0) (own_allS (Or.inr sz_b10_0) (own_allS (Or.inr sz_b10_0) (own_allS (Or.inr sz_b10_0) (own_allS (Or.inr sz_b10_0) (own_allS (Or.inr le1) (own_allS (Or.inr sz_b10_0) own_all0))))))))))))))))))
      have sz_b151_0 : Array.size h0 ≤ b151_0 := Nat.le_trans KC173.1 le_b151_0
      have F174 := (own_E F60 K151)
      have F175 := (own_F (v := .null) F61 K151 (own_nl D152 (own_nl D152 (own_nl D152 (own_nl D152 (own_nl D152 (own_nl D152 (own_nl D48 (own_nl D48 (own_nl D48 (own_nl D152 (own_nl D48 own_nin0))))))))))))
      have F176 := (own_F (v := .null) F62 K151 (own_nl D152 (own_nl D152 (own_nl D152 (own_nl D152 (own_nl D152 (own_nl D152 (own_nl D48 (own_nl D48 (own_nl D48 (own_nl D152 (own_nl D48 own_nin0))))))))))))
      have F177 := (own_F (v := .null) G46_0 K151 (own_nl D152 (own_nl D152 (own_nl D152 (own_nl D152 (own_nl D152 (own_nl D152 (own_nl D48 (own_nl D48 (own_nl D48 (own_nl D152 (own_nl D48 own_nin0))))))))))))
      have F178 := (own_F (v := .null) G46_1 K151 (own_nl D152 (own_nl D152 (own_nl D152 (own_nl D152 (own_nl D152 (own_nl D152 (own_nl D48 (own_nl D48 (own_nl D48 (own_nl D152 (own_nl D48 own_nin0))))))))))))
      have F179 := (own_E F63 K151)
      have F180 := (own_E F64 K151)
      have F181 := (own_F (v := (.ref b1)) F65 K151 (own_nl G10_32 (own_nl G10_32 (own_nl G10_32 (own_nl G10_32 (own_nl G10_32 (own_nl G10_32 (own_nr (sl_54 hw) (own_nr (sl_55 hw) (own_nr (sl_115 hw) (own_nl G10_32 (own_nr (sl_114 hw) own_nin0))))))))))))
      have F182 := (own_F (v := (.ref b46_0)) G46_14 K151 (own_nl G10_32 (own_nl G10_32 (own_nl G10_32 (own_nl G10_32 (own_nl G10_32 (own_nl G10_32 (own_nr (sl_72 hw) (own_nr (sl_73 hw) (own_nr (sl_76 hw) (own_nl G10_32 (own_nr (sl_112 hw) own_nin0))))))))))))
      have F183 := (own_F (v := (.ref b10_1)) G46_13 K151 (own_nl G10_32 (own_nl G10_32 (own_nl G10_32 (own_nl G10_32 (own_nl G10_32 (own_nl G10_32 (own_nr (sl_59 hw) (own_nr (sl_60 hw) (own_nr (sl_77 hw) (own_nl G10_32 (own_nr (sl_104 hw) own_nin0))))))))))))
      rcases own_mask4 p0 with qL81 | qL81 | qL81 | qL81
      ·
        rw [qL81]
        refine own_aload Y151 hx (pc' := 83) (hb hby at_81) rfl rfl rfl ?_
        refine own_iload Y151 hx (pc' := 85) (hb hby at_83) rfl rfl ?_
        refine own_virtual Y151 hx (pc' := 88) (W := 0) (cl' := 7) (sl' := 62) (as' := [(.int (0 : Int32))]) (S' := []) (a := b10_0) hZ hown (own_w hw 161 rfl) (own_w hw 57 rfl) (notFace_of_selects (args := #[]) (mvT hZ (own_w hw 59 rfl))) (own_w hw 59 rfl) (own_w hw 58 rfl) (own_w hw 3 rfl) (own_w hw 60 rfl) (by decide) F180 (rm8_5 l Z a0 hw [] b10_0 b1 h151 n0 (own_sz Y151) F181) (hb hby at_85) rfl (by rw [hml]; rfl) rfl (lenOf pd__I_Lcom_example_napkintree_napkintree_balancing_MultiwayTree_Node_ rfl) rfl (by decide) (by decide) rfl rfl (by decide) (by decide) own_Same.sz (own_fixS (S2 := [(.ref b1)]) rfl (fun T184 Y184 => ?_))
        refine own_astore Y184 hx (pc' := 90) (Ls' := #[.val (.int p0), .val (.int p1), .val (.int p2), .val (.int p3), .val (.int (0 : Int32)), .val (.int (p3 &&& (3 : Int32))), .val (.int (0 : Int32)), .val (.int (2 : Int32)), .val (.ref b1), .val (.ref b3), .val (.ref b10_0), .val (.ref b1), .unset, .unset]) (hb hby at_88) rfl rfl rfl ?_
        refine own_aload Y184 hx (pc' := 92) (hb hby at_90) rfl rfl rfl ?_
        refine own_ifnullNo Y184 hx (pc' := 95) (hb hby at_92) rfl ?_
        refine own_aload Y184 hx (pc' := 97) (hb hby at_95) rfl rfl rfl ?_
        refine own_aload Y184 hx (pc' := 99) (hb hby at_97) rfl rfl rfl ?_
        refine own_acmp Y184 hx (pc' := 102) (same := false) (hb hby at_99) rfl rfl (decide_eq_false fun q => D48 (Value.ref.inj q)) (by decide) (by decide) ?_
        refine own_iload Y184 hx (pc' := 104) (hb hby at_102) rfl rfl ?_
        refine own_ifNo Y184 hx (pc' := 107) (hb hby at_104) rfl (by decide) ?_
        refine own_iconst Y184 hx (pc' := 108) (x := (1 : Int32)) (hb hby at_107) rfl (by decide) ?_
        refine own_goto Y184 hx (pc' := 112) (hb hby at_108) (by decide) (by decide) ?_
        refine own_aload Y184 hx (pc' := 114) (hb hby at_112) rfl rfl rfl ?_
        refine own_aload Y184 hx (pc' := 116) (hb hby at_114) rfl rfl rfl ?_
        refine own_acmp Y184 hx (pc' := 119) (same := true) (hb hby at_116) rfl rfl (decide_eq_true rfl) (by decide) (by decide) ?_
        refine own_iconst Y184 hx (pc' := 120) (x := (1 : Int32)) (hb hby at_119) rfl (by decide) ?_
        refine own_goto Y184 hx (pc' := 124) (hb hby at_120) (by decide) (by decide) ?_
        refine own_icmpNo Y184 hx (pc' := 127) (hb hby at_124) rfl (by decide) ?_
        refine own_aload Y184 hx (pc' := 129) (hb hby at_127) rfl rfl rfl ?_
        refine own_aload Y184 hx (pc' := 131) (hb hby at_129) rfl rfl rfl ?_
        refine own_virtual Y184 hx (pc' := 134) (W := 0) (cl' := 7) (sl' := 62) (as' := [(.ref b1)]) (S' := []) (a := b10_0) hZ hown (own_w hw 162 rfl) (own_w hw 163 rfl) (notFace_of_selects (args := #[]) (mvT hZ (own_w hw 165 rfl))) (own_w hw 165 rfl) (own_w hw 164 rfl) (own_w hw 3 rfl) (own_w hw 166 rfl) (by decide) F180 (rm20_34 l Z a0 hw [] b10_0 b1 h151 n0 (own_sz Y184) F181) (hb hby at_131) rfl (by rw [hml]; rfl) rfl (lenOf pd__Lcom_example_napkintree_napkintree_balancing_MultiwayTree_Node__I rfl) rfl (by decide) (by decide) rfl rfl (by decide) (by decide) own_Same.sz (own_fixS (S2 := [(.int (0 : Int32))]) rfl (fun T185 Y185 => ?_))
        refine own_iload Y185 hx (pc' := 136) (hb hby at_134) rfl rfl ?_
        refine own_icmpNo Y185 hx (pc' := 139) (hb hby at_136) rfl (by decide) ?_
        refine own_iconst Y185 hx (pc' := 140) (x := (1 : Int32)) (hb hby at_139) rfl (by decide) ?_
        refine own_goto Y185 hx (pc' := 144) (hb hby at_140) (by decide) (by decide) ?_
        refine own_istore Y185 hx (pc' := 146) (Ls' := #[.val (.int p0), .val (.int p1), .val (.int p2), .val (.int p3), .val (.int (0 : Int32)), .val (.int (p3 &&& (3 : Int32))), .val (.int (0 : Int32)), .val (.int (2 : Int32)), .val (.ref b1), .val (.ref b3), .val (.ref b10_0), .val (.ref b1), .val (.int (1 : Int32)), .unset]) (hb hby at_144) rfl rfl ?_
        refine own_aload Y185 hx (pc' := 148) (hb hby at_146) rfl rfl rfl ?_
        refine own_iload Y185 hx (pc' := 150) (hb hby at_148) rfl rfl ?_
        refine own_virtual Y185 hx (pc' := 153) (W := 0) (cl' := 7) (sl' := 62) (as' := [(.int (p3 &&& (3 : Int32)))]) (S' := []) (a := b1) hZ hown (own_w hw 161 rfl) (own_w hw 57 rfl) (notFace_of_selects (args := #[]) (mvT hZ (own_w hw 59 rfl))) (own_w hw 59 rfl) (own_w hw 58 rfl) (own_w hw 3 rfl) (own_w hw 60 rfl) (by decide) F174 (rm8_35 l Z a0 hw [] b1 (p3 &&& (3 : Int32)) h151 n0 (own_sz Y185) F175 F176 F177 F178) (hb hby at_150) rfl (by rw [hml]; rfl) rfl (lenOf pd__I_Lcom_example_napkintree_napkintree_balancing_MultiwayTree_Node_ rfl) rfl (by decide) (by decide) rfl rfl (by decide) (by decide) own_Same.sz (own_fixS (S2 := [.null]) rfl (fun T186 Y186 => ?_))
        refine own_ifnonnullNo Y186 hx (pc' := 156) (hb hby at_153) rfl ?_
        refine own_iconst Y186 hx (pc' := 157) (x := (1 : Int32)) (hb hby at_156) rfl (by decide) ?_
        refine own_goto Y186 hx (pc' := 161) (hb hby at_157) (by decide) (by decide) ?_
        refine own_istore Y186 hx (pc' := 163) (Ls' := #[.val (.int p0), .val (.int p1), .val (.int p2), .val (.int p3), .val (.int (0 : Int32)), .val (.int (p3 &&& (3 : Int32))), .val (.int (0 : Int32)), .val (.int (2 : Int32)), .val (.ref b1), .val (.ref b3), .val (.ref b10_0), .val (.ref b1), .val (.int (1 : Int32)), .val (.int (1 : Int32))]) (hb hby at_161) rfl rfl ?_
        refine own_iload Y186 hx (pc' := 165) (hb hby at_163) rfl rfl ?_
        refine own_ifNo Y186 hx (pc' := 168) (hb hby at_165) rfl (by decide) ?_
        refine own_iload Y186 hx (pc' := 170) (hb hby at_168) rfl rfl ?_
        refine own_ifNo Y186 hx (pc' := 173) (hb hby at_170) rfl (by decide) ?_
        refine own_iconst Y186 hx (pc' := 174) (x := (1 : Int32)) (hb hby at_173) rfl (by decide) ?_
        refine own_goto Y186 hx (pc' := 178) (hb hby at_174) (by decide) (by decide) ?_
        exact own_retN Y186 hx hlk Bd.returns rfl (by simp) (hb hby at_178) ⟨rfl, trivial⟩ (by decide) (by decide)
      ·
        rw [qL81]
        refine own_aload Y151 hx (pc' := 83) (hb hby at_81) rfl rfl rfl ?_
        refine own_iload Y151 hx (pc' := 85) (hb hby at_83) rfl rfl ?_
        refine own_virtual Y151 hx (pc' := 88) (W := 0) (cl' := 7) (sl' := 62) (as' := [(.int (1 : Int32))]) (S' := []) (a := b10_0) hZ hown (own_w hw 161 rfl) (own_w hw 57 rfl) (notFace_of_selects (args := #[]) (mvT hZ (own_w hw 59 rfl))) (own_w hw 59 rfl) (own_w hw 58 rfl) (own_w hw 3 rfl) (own_w hw 60 rfl) (by decide) F180 (rm8_36 l Z a0 hw [] b10_0 b46_0 h151 n0 (own_sz Y151) F182) (hb hby at_85) rfl (by rw [hml]; rfl) rfl (lenOf pd__I_Lcom_example_napkintree_napkintree_balancing_MultiwayTree_Node_ rfl) rfl (by decide) (by decide) rfl rfl (by decide) (by decide) own_Same.sz (own_fixS (S2 := [(.ref b46_0)]) rfl (fun T187 Y187 => ?_))
        refine own_astore Y187 hx (pc' := 90) (Ls' := #[.val (.int p0), .val (.int p1), .val (.int p2), .val (.int p3), .val (.int (1 : Int32)), .val (.int (p3 &&& (3 : Int32))), .val (.int (0 : Int32)), .val (.int (2 : Int32)), .val (.ref b1), .val (.ref b3), .val (.ref b10_0), .val (.ref b46_0), .unset, .unset]) (hb hby at_88) rfl rfl rfl ?_
        refine own_aload Y187 hx (pc' := 92) (hb hby at_90) rfl rfl rfl ?_
        refine own_ifnullNo Y187 hx (pc' := 95) (hb hby at_92) rfl ?_
        refine own_aload Y187 hx (pc' := 97) (hb hby at_95) rfl rfl rfl ?_
        refine own_aload Y187 hx (pc' := 99) (hb hby at_97) rfl rfl rfl ?_
        have D188 : b10_0 ≠ b46_0 := (Nat.ne_of_lt (Nat.lt_of_lt_of_le G10_8.lt le_b46_0))
        refine own_acmp Y187 hx (pc' := 102) (same := false) (hb hby at_99) rfl rfl (decide_eq_false fun q => (Ne.symm D188) (Value.ref.inj q)) (by decide) (by decide) ?_
        refine own_iload Y187 hx (pc' := 104) (hb hby at_102) rfl rfl ?_
        refine own_ifYes Y187 hx (pc' := 111) (hb hby at_104) (by decide) (by decide) (by decide) ?_
        refine own_iconst Y187 hx (pc' := 112) (x := (0 : Int32)) (hb hby at_111) rfl (by decide) ?_
        refine own_aload Y187 hx (pc' := 114) (hb hby at_112) rfl rfl rfl ?_
        refine own_aload Y187 hx (pc' := 116) (hb hby at_114) rfl rfl rfl ?_
        have D189 : b1 ≠ b46_0 := (Nat.ne_of_lt (Nat.lt_of_lt_of_le F42.lt le_b46_0))
        refine own_acmp Y187 hx (pc' := 123) (same := false) (hb hby at_116) rfl rfl (decide_eq_false fun q => (Ne.symm D189) (Value.ref.inj q)) (by decide) (by decide) ?_
        refine own_iconst Y187 hx (pc' := 124) (x := (0 : Int32)) (hb hby at_123) rfl (by decide) ?_
        refine own_icmpNo Y187 hx (pc' := 127) (hb hby at_124) rfl (by decide) ?_
        refine own_aload Y187 hx (pc' := 129) (hb hby at_127) rfl rfl rfl ?_
        refine own_aload Y187 hx (pc' := 131) (hb hby at_129) rfl rfl rfl ?_
        refine own_virtual Y187 hx (pc' := 134) (W := 0) (cl' := 7) (sl' := 62) (as' := [(.ref b46_0)]) (S' := []) (a := b10_0) hZ hown (own_w hw 162 rfl) (own_w hw 163 rfl) (notFace_of_selects (args := #[]) (mvT hZ (own_w hw 165 rfl))) (own_w hw 165 rfl) (own_w hw 164 rfl) (own_w hw 3 rfl) (own_w hw 166 rfl) (by decide) F180 (rm20_37 l Z a0 hw [] b10_0 b46_0 b1 h151 n0 (own_sz Y187) F181 (Ne.symm D189) F182) (hb hby at_131) rfl (by rw [hml]; rfl) rfl (lenOf pd__Lcom_example_napkintree_napkintree_balancing_MultiwayTree_Node__I rfl) rfl (by decide) (by decide) rfl rfl (by decide) (by decide) own_Same.sz (own_fixS (S2 := [(.int (1 : Int32))]) rfl (fun T190 Y190 => ?_))
        refine own_iload Y190 hx (pc' := 136) (hb hby at_134) rfl rfl ?_
        refine own_icmpNo Y190 hx (pc' := 139) (hb hby at_136) rfl (by decide) ?_
        refine own_iconst Y190 hx (pc' := 140) (x := (1 : Int32)) (hb hby at_139) rfl (by decide) ?_
        refine own_goto Y190 hx (pc' := 144) (hb hby at_140) (by decide) (by decide) ?_
        refine own_istore Y190 hx (pc' := 146) (Ls' := #[.val (.int p0), .val (.int p1), .val (.int p2), .val (.int p3), .val (.int (1 : Int32)), .val (.int (p3 &&& (3 : Int32))), .val (.int (0 : Int32)), .val (.int (2 : Int32)), .val (.ref b1), .val (.ref b3), .val (.ref b10_0), .val (.ref b46_0), .val (.int (1 : Int32)), .unset]) (hb hby at_144) rfl rfl ?_
        refine own_aload Y190 hx (pc' := 148) (hb hby at_146) rfl rfl rfl ?_
        refine own_iload Y190 hx (pc' := 150) (hb hby at_148) rfl rfl ?_
        refine own_virtual Y190 hx (pc' := 153) (W := 0) (cl' := 7) (sl' := 62) (as' := [(.int (p3 &&& (3 : Int32)))]) (S' := []) (a := b1) hZ hown (own_w hw 161 rfl) (own_w hw 57 rfl) (notFace_of_selects (args := #[]) (mvT hZ (own_w hw 59 rfl))) (own_w hw 59 rfl) (own_w hw 58 rfl) (own_w hw 3 rfl) (own_w hw 60 rfl) (by decide) F174 (rm8_35 l Z a0 hw [] b1 (p3 &&& (3 : Int32)) h151 n0 (own_sz Y190) F175 F176 F177 F178) (hb hby at_150) rfl (by rw [hml]; rfl) rfl (lenOf pd__I_Lcom_example_napkintree_napkintree_balancing_MultiwayTree_Node_ rfl) rfl (by decide) (by decide) rfl rfl (by decide) (by decide) own_Same.sz (own_fixS (S2 := [.null]) rfl (fun T191 Y191 => ?_))
        refine own_ifnonnullNo Y191 hx (pc' := 156) (hb hby at_153) rfl ?_
        refine own_iconst Y191 hx (pc' := 157) (x := (1 : Int32)) (hb hby at_156) rfl (by decide) ?_
        refine own_goto Y191 hx (pc' := 161) (hb hby at_157) (by decide) (by decide) ?_
        refine own_istore Y191 hx (pc' := 163) (Ls' := #[.val (.int p0), .val (.int p1), .val (.int p2), .val (.int p3), .val (.int (1 : Int32)), .val (.int (p3 &&& (3 : Int32))), .val (.int (0 : Int32)), .val (.int (2 : Int32)), .val (.ref b1), .val (.ref b3), .val (.ref b10_0), .val (.ref b46_0), .val (.int (1 : Int32)), .val (.int (1 : Int32))]) (hb hby at_161) rfl rfl ?_
        refine own_iload Y191 hx (pc' := 165) (hb hby at_163) rfl rfl ?_
        refine own_ifNo Y191 hx (pc' := 168) (hb hby at_165) rfl (by decide) ?_
        refine own_iload Y191 hx (pc' := 170) (hb hby at_168) rfl rfl ?_
        refine own_ifNo Y191 hx (pc' := 173) (hb hby at_170) rfl (by decide) ?_
        refine own_iconst Y191 hx (pc' := 174) (x := (1 : Int32)) (hb hby at_173) rfl (by decide) ?_
        refine own_goto Y191 hx (pc' := 178) (hb hby at_174) (by decide) (by decide) ?_
        exact own_retN Y191 hx hlk Bd.returns rfl (by simp) (hb hby at_178) ⟨rfl, trivial⟩ (by decide) (by decide)
      ·
        rw [qL81]
        refine own_aload Y151 hx (pc' := 83) (hb hby at_81) rfl rfl rfl ?_
        refine own_iload Y151 hx (pc' := 85) (hb hby at_83) rfl rfl ?_
        refine own_virtual Y151 hx (pc' := 88) (W := 0) (cl' := 7) (sl' := 62) (as' := [(.int (2 : Int32))]) (S' := []) (a := b10_0) hZ hown (own_w hw 161 rfl) (own_w hw 57 rfl) (notFace_of_selects (args := #[]) (mvT hZ (own_w hw 59 rfl))) (own_w hw 59 rfl) (own_w hw 58 rfl) (own_w hw 3 rfl) (own_w hw 60 rfl) (by decide) F180 (rm8_38 l Z a0 hw [] b10_0 b10_1 h151 n0 (own_sz Y151) F183) (hb hby at_85) rfl (by rw [hml]; rfl) rfl (lenOf pd__I_Lcom_example_napkintree_napkintree_balancing_MultiwayTree_Node_ rfl) rfl (by decide) (by decide) rfl rfl (by decide) (by decide) own_Same.sz (own_fixS (S2 := [(.ref b10_1)]) rfl (fun T192 Y192 => ?_))
        refine own_astore Y192 hx (pc' := 90) (Ls' := #[.val (.int p0), .val (.int p1), .val (.int p2), .val (.int p3), .val (.int (2 : Int32)), .val (.int (p3 &&& (3 : Int32))), .val (.int (0 : Int32)), .val (.int (2 : Int32)), .val (.ref b1), .val (.ref b3), .val (.ref b10_0), .val (.ref b10_1), .unset, .unset]) (hb hby at_88) rfl rfl rfl ?_
        refine own_aload Y192 hx (pc' := 92) (hb hby at_90) rfl rfl rfl ?_
        refine own_ifnullNo Y192 hx (pc' := 95) (hb hby at_92) rfl ?_
        refine own_aload Y192 hx (pc' := 97) (hb hby at_95) rfl rfl rfl ?_
        refine own_aload Y192 hx (pc' := 99) (hb hby at_97) rfl rfl rfl ?_
        refine own_acmp Y192 hx (pc' := 102) (same := false) (hb hby at_99) rfl rfl (decide_eq_false fun q => (Ne.symm G10_32) (Value.ref.inj q)) (by decide) (by decide) ?_
        refine own_iload Y192 hx (pc' := 104) (hb hby at_102) rfl rfl ?_
        refine own_ifYes Y192 hx (pc' := 111) (hb hby at_104) (by decide) (by decide) (by decide) ?_
        refine own_iconst Y192 hx (pc' := 112) (x := (0 : Int32)) (hb hby at_111) rfl (by decide) ?_
        refine own_aload Y192 hx (pc' := 114) (hb hby at_112) rfl rfl rfl ?_
        refine own_aload Y192 hx (pc' := 116) (hb hby at_114) rfl rfl rfl ?_
        refine own_acmp Y192 hx (pc' := 123) (same := false) (hb hby at_116) rfl rfl (decide_eq_false fun q => (Ne.symm D152) (Value.ref.inj q)) (by decide) (by decide) ?_
        refine own_iconst Y192 hx (pc' := 124) (x := (0 : Int32)) (hb hby at_123) rfl (by decide) ?_
        refine own_icmpNo Y192 hx (pc' := 127) (hb hby at_124) rfl (by decide) ?_
        refine own_aload Y192 hx (pc' := 129) (hb hby at_127) rfl rfl rfl ?_
        refine own_aload Y192 hx (pc' := 131) (hb hby at_129) rfl rfl rfl ?_
        have D194 : b10_1 ≠ b46_0 := (Nat.ne_of_lt (Nat.lt_of_lt_of_le G10_20.lt le_b46_0))
        refine own_virtual Y192 hx (pc' := 134) (W := 0) (cl' := 7) (sl' := 62) (as' := [(.ref b10_1)]) (S' := []) (a := b10_0) hZ hown (own_w hw 162 rfl) (own_w hw 163 rfl) (notFace_of_selects (args := #[]) (mvT hZ (own_w hw 165 rfl))) (own_w hw 165 rfl) (own_w hw 164 rfl) (own_w hw 3 rfl) (own_w hw 166 rfl) (by decide) F180 (rm20_39 l Z a0 hw [] b10_0 b10_1 b1 b46_0 h151 n0 (own_sz Y192) F181 (Ne.symm D152) F182 D194 F183) (hb hby at_131) rfl (by rw [hml]; rfl) rfl (lenOf pd__Lcom_example_napkintree_napkintree_balancing_MultiwayTree_Node__I rfl) rfl (by decide) (by decide) rfl rfl (by decide) (by decide) own_Same.sz (own_fixS (S2 := [(.int (2 : Int32))]) rfl (fun T193 Y193 => ?_))
        refine own_iload Y193 hx (pc' := 136) (hb hby at_134) rfl rfl ?_
        refine own_icmpNo Y193 hx (pc' := 139) (hb hby at_136) rfl (by decide) ?_
        refine own_iconst Y193 hx (pc' := 140) (x := (1 : Int32)) (hb hby at_139) rfl (by decide) ?_
        refine own_goto Y193 hx (pc' := 144) (hb hby at_140) (by decide) (by decide) ?_
        refine own_istore Y193 hx (pc' := 146) (Ls' := #[.val (.int p0), .val (.int p1), .val (.int p2), .val (.int p3), .val (.int (2 : Int32)), .val (.int (p3 &&& (3 : Int32))), .val (.int (0 : Int32)), .val (.int (2 : Int32)), .val (.ref b1), .val (.ref b3), .val (.ref b10_0), .val (.ref b10_1), .val (.int (1 : Int32)), .unset]) (hb hby at_144) rfl rfl ?_
        refine own_aload Y193 hx (pc' := 148) (hb hby at_146) rfl rfl rfl ?_
        refine own_iload Y193 hx (pc' := 150) (hb hby at_148) rfl rfl ?_
        refine own_virtual Y193 hx (pc' := 153) (W := 0) (cl' := 7) (sl' := 62) (as' := [(.int (p3 &&& (3 : Int32)))]) (S' := []) (a := b1) hZ hown (own_w hw 161 rfl) (own_w hw 57 rfl) (notFace_of_selects (args := #[]) (mvT hZ (own_w hw 59 rfl))) (own_w hw 59 rfl) (own_w hw 58 rfl) (own_w hw 3 rfl) (own_w hw 60 rfl) (by decide) F174 (rm8_35 l Z a0 hw [] b1 (p3 &&& (3 : Int32)) h151 n0 (own_sz Y193) F175 F176 F177 F178) (hb hby at_150) rfl (by rw [hml]; rfl) rfl (lenOf pd__I_Lcom_example_napkintree_napkintree_balancing_MultiwayTree_Node_ rfl) rfl (by decide) (by decide) rfl rfl (by decide) (by decide) own_Same.sz (own_fixS (S2 := [.null]) rfl (fun T195 Y195 => ?_))
        refine own_ifnonnullNo Y195 hx (pc' := 156) (hb hby at_153) rfl ?_
        refine own_iconst Y195 hx (pc' := 157) (x := (1 : Int32)) (hb hby at_156) rfl (by decide) ?_
        refine own_goto Y195 hx (pc' := 161) (hb hby at_157) (by decide) (by decide) ?_
        refine own_istore Y195 hx (pc' := 163) (Ls' := #[.val (.int p0), .val (.int p1), .val (.int p2), .val (.int p3), .val (.int (2 : Int32)), .val (.int (p3 &&& (3 : Int32))), .val (.int (0 : Int32)), .val (.int (2 : Int32)), .val (.ref b1), .val (.ref b3), .val (.ref b10_0), .val (.ref b10_1), .val (.int (1 : Int32)), .val (.int (1 : Int32))]) (hb hby at_161) rfl rfl ?_
        refine own_iload Y195 hx (pc' := 165) (hb hby at_163) rfl rfl ?_
        refine own_ifNo Y195 hx (pc' := 168) (hb hby at_165) rfl (by decide) ?_
        refine own_iload Y195 hx (pc' := 170) (hb hby at_168) rfl rfl ?_
        refine own_ifNo Y195 hx (pc' := 173) (hb hby at_170) rfl (by decide) ?_
        refine own_iconst Y195 hx (pc' := 174) (x := (1 : Int32)) (hb hby at_173) rfl (by decide) ?_
        refine own_goto Y195 hx (pc' := 178) (hb hby at_174) (by decide) (by decide) ?_
        exact own_retN Y195 hx hlk Bd.returns rfl (by simp) (hb hby at_178) ⟨rfl, trivial⟩ (by decide) (by decide)
      ·
        rw [qL81]
        refine own_aload Y151 hx (pc' := 83) (hb hby at_81) rfl rfl rfl ?_
        refine own_iload Y151 hx (pc' := 85) (hb hby at_83) rfl rfl ?_
        refine own_virtual Y151 hx (pc' := 88) (W := 0) (cl' := 7) (sl' := 62) (as' := [(.int (3 : Int32))]) (S' := []) (a := b10_0) hZ hown (own_w hw 161 rfl) (own_w hw 57 rfl) (notFace_of_selects (args := #[]) (mvT hZ (own_w hw 59 rfl))) (own_w hw 59 rfl) (own_w hw 58 rfl) (own_w hw 3 rfl) (own_w hw 60 rfl) (by decide) F180 (rm8_40 l Z a0 hw [] b10_0 b151_0 h151 n0 (own_sz Y151) G151_8) (hb hby at_85) rfl (by rw [hml]; rfl) rfl (lenOf pd__I_Lcom_example_napkintree_napkintree_balancing_MultiwayTree_Node_ rfl) rfl (by decide) (by decide) rfl rfl (by decide) (by decide) own_Same.sz (own_fixS (S2 := [(.ref b151_0)]) rfl (fun T196 Y196 => ?_))
        refine own_astore Y196 hx (pc' := 90) (Ls' := #[.val (.int p0), .val (.int p1), .val (.int p2), .val (.int p3), .val (.int (3 : Int32)), .val (.int (p3 &&& (3 : Int32))), .val (.int (0 : Int32)), .val (.int (2 : Int32)), .val (.ref b1), .val (.ref b3), .val (.ref b10_0), .val (.ref b151_0), .unset, .unset]) (hb hby at_88) rfl rfl rfl ?_
        refine own_aload Y196 hx (pc' := 92) (hb hby at_90) rfl rfl rfl ?_
        refine own_ifnullNo Y196 hx (pc' := 95) (hb hby at_92) rfl ?_
        refine own_aload Y196 hx (pc' := 97) (hb hby at_95) rfl rfl rfl ?_
        refine own_aload Y196 hx (pc' := 99) (hb hby at_97) rfl rfl rfl ?_
        have D197 : b10_0 ≠ b151_0 := (Nat.ne_of_lt (Nat.lt_of_lt_of_le F64.lt le_b151_0))
        refine own_acmp Y196 hx (pc' := 102) (same := false) (hb hby at_99) rfl rfl (decide_eq_false fun q => (Ne.symm D197) (Value.ref.inj q)) (by decide) (by decide) ?_
        refine own_iload Y196 hx (pc' := 104) (hb hby at_102) rfl rfl ?_
        refine own_ifYes Y196 hx (pc' := 111) (hb hby at_104) (by decide) (by decide) (by decide) ?_
        refine own_iconst Y196 hx (pc' := 112) (x := (0 : Int32)) (hb hby at_111) rfl (by decide) ?_
        refine own_aload Y196 hx (pc' := 114) (hb hby at_112) rfl rfl rfl ?_
        refine own_aload Y196 hx (pc' := 116) (hb hby at_114) rfl rfl rfl ?_
        have D198 : b1 ≠ b151_0 := (Nat.ne_of_lt (Nat.lt_of_lt_of_le F60.lt le_b151_0))
        refine own_acmp Y196 hx (pc' := 123) (same := false) (hb hby at_116) rfl rfl (decide_eq_false fun q => (Ne.symm D198) (Value.ref.inj q)) (by decide) (by decide) ?_
        refine own_iconst Y196 hx (pc' := 124) (x := (0 : Int32)) (hb hby at_123) rfl (by decide) ?_
        refine own_icmpNo Y196 hx (pc' := 127) (hb hby at_124) rfl (by decide) ?_
        refine own_aload Y196 hx (pc' := 129) (hb hby at_127) rfl rfl rfl ?_
        refine own_aload Y196 hx (pc' := 131) (hb hby at_129) rfl rfl rfl ?_
        have D200 : b46_0 ≠ b151_0 := (Nat.ne_of_lt (Nat.lt_of_lt_of_le G46_17.lt le_b151_0))
        have D201 : b10_1 ≠ b151_0 := (Nat.ne_of_lt (Nat.lt_of_lt_of_le F155.lt le_b151_0))
        refine own_virtual Y196 hx (pc' := 134) (W := 0) (cl' := 7) (sl' := 62) (as' := [(.ref b151_0)]) (S' := []) (a := b10_0) hZ hown (own_w hw 162 rfl) (own_w hw 163 rfl) (notFace_of_selects (args := #[]) (mvT hZ (own_w hw 165 rfl))) (own_w hw 165 rfl) (own_w hw 164 rfl) (own_w hw 3 rfl) (own_w hw 166 rfl) (by decide) F180 (rm20_41 l Z a0 hw [] b10_0 b151_0 b1 b46_0 b10_1 h151 n0 (own_sz Y196) F181 (Ne.symm D198) F182 (Ne.symm D200) F183 (Ne.symm D201)) (hb hby at_131) rfl (by rw [hml]; rfl) rfl (lenOf pd__Lcom_example_napkintree_napkintree_balancing_MultiwayTree_Node__I rfl) rfl (by decide) (by decide) rfl rfl (by decide) (by decide) own_Same.sz (own_fixS (S2 := [(.int (3 : Int32))]) rfl (fun T199 Y199 => ?_))
        refine own_iload Y199 hx (pc' := 136) (hb hby at_134) rfl rfl ?_
        refine own_icmpNo Y199 hx (pc' := 139) (hb hby at_136) rfl (by decide) ?_
        refine own_iconst Y199 hx (pc' := 140) (x := (1 : Int32)) (hb hby at_139) rfl (by decide) ?_
        refine own_goto Y199 hx (pc' := 144) (hb hby at_140) (by decide) (by decide) ?_
        refine own_istore Y199 hx (pc' := 146) (Ls' := #[.val (.int p0), .val (.int p1), .val (.int p2), .val (.int p3), .val (.int (3 : Int32)), .val (.int (p3 &&& (3 : Int32))), .val (.int (0 : Int32)), .val (.int (2 : Int32)), .val (.ref b1), .val (.ref b3), .val (.ref b10_0), .val (.ref b151_0), .val (.int (1 : Int32)), .unset]) (hb hby at_144) rfl rfl ?_
        refine own_aload Y199 hx (pc' := 148) (hb hby at_146) rfl rfl rfl ?_
        refine own_iload Y199 hx (pc' := 150) (hb hby at_148) rfl rfl ?_
        refine own_virtual Y199 hx (pc' := 153) (W := 0) (cl' := 7) (sl' := 62) (as' := [(.int (p3 &&& (3 : Int32)))]) (S' := []) (a := b1) hZ hown (own_w hw 161 rfl) (own_w hw 57 rfl) (notFace_of_selects (args := #[]) (mvT hZ (own_w hw 59 rfl))) (own_w hw 59 rfl) (own_w hw 58 rfl) (own_w hw 3 rfl) (own_w hw 60 rfl) (by decide) F174 (rm8_35 l Z a0 hw [] b1 (p3 &&& (3 : Int32)) h151 n0 (own_sz Y199) F175 F176 F177 F178) (hb hby at_150) rfl (by rw [hml]; rfl) rfl (lenOf pd__I_Lcom_example_napkintree_napkintree_balancing_MultiwayTree_Node_ rfl) rfl (by decide) (by decide) rfl rfl (by decide) (by decide) own_Same.sz (own_fixS (S2 := [.null]) rfl (fun T202 Y202 => ?_))
        refine own_ifnonnullNo Y202 hx (pc' := 156) (hb hby at_153) rfl ?_
        refine own_iconst Y202 hx (pc' := 157) (x := (1 : Int32)) (hb hby at_156) rfl (by decide) ?_
        refine own_goto Y202 hx (pc' := 161) (hb hby at_157) (by decide) (by decide) ?_
        refine own_istore Y202 hx (pc' := 163) (Ls' := #[.val (.int p0), .val (.int p1), .val (.int p2), .val (.int p3), .val (.int (3 : Int32)), .val (.int (p3 &&& (3 : Int32))), .val (.int (0 : Int32)), .val (.int (2 : Int32)), .val (.ref b1), .val (.ref b3), .val (.ref b10_0), .val (.ref b151_0), .val (.int (1 : Int32)), .val (.int (1 : Int32))]) (hb hby at_161) rfl rfl ?_
        refine own_iload Y202 hx (pc' := 165) (hb hby at_163) rfl rfl ?_
        refine own_ifNo Y202 hx (pc' := 168) (hb hby at_165) rfl (by decide) ?_
        refine own_iload Y202 hx (pc' := 170) (hb hby at_168) rfl rfl ?_
        refine own_ifNo Y202 hx (pc' := 173) (hb hby at_170) rfl (by decide) ?_
        refine own_iconst Y202 hx (pc' := 174) (x := (1 : Int32)) (hb hby at_173) rfl (by decide) ?_
        refine own_goto Y202 hx (pc' := 178) (hb hby at_174) (by decide) (by decide) ?_
        exact own_retN Y202 hx hlk Bd.returns rfl (by simp) (hb hby at_178) ⟨rfl, trivial⟩ (by decide) (by decide)
  ·
    rw [qL63]
    refine own_aload Y41 hx (pc' := 65) (hb hby at_63) rfl rfl rfl ?_
    refine own_aload Y41 hx (pc' := 67) (hb hby at_65) rfl rfl rfl ?_
    refine own_iload Y41 hx (pc' := 69) (hb hby at_67) rfl rfl ?_
    have F204 := (own_St F19 K10 (own_allS (own_plain F12) (own_allS (own_plain F12) (own_allS (own_plain F12) (own_allS (own_plain F12) (own_allS (own_plain F12) (own_allS (own_plain F12) (own_allS (own_plain F12) (own_allS (own_plain F11) own_all0)))))))))
    have F205 := (own_St F21 K10 (own_allS (own_plain F12) (own_allS (own_plain F12) (own_allS (own_plain F12) (own_allS (own_plain F12) (own_allS (own_plain F12) (own_allS (own_plain F12) (own_allS (own_plain F12) (own_allS (own_plain F11) own_all0)))))))))
    have F206 := (own_F (v := (.int (0 : Int32))) F22 K10 (own_nl (Ne.symm D13) (own_nl (Ne.symm D13) (own_nl (Ne.symm D13) (own_nl (Ne.symm D13) (own_nl (Ne.symm D13) (own_nl (Ne.symm D13) (own_nl (Ne.symm D13) (own_nr (sl_93 hw) own_nin0)))))))))
    have F207 := (own_St F23 K10 (own_allS (own_plain F12) (own_allS (own_plain F12) (own_allS (own_plain F12) (own_allS (own_plain F12) (own_allS (own_plain F12) (own_allS (own_plain F12) (own_allS (own_plain F12) (own_allS (own_plain F11) own_all0)))))))))
    have F208 := (own_E F24 K10)
    have D209 : w_SPLIT ≠ b1 := (Nat.ne_of_lt (Nat.lt_of_lt_of_le E_SPLIT.lt le1))
    have F210 := (own_F (v := (.int (1 : Int32))) F27 K10 (own_nl D209 (own_nl D209 (own_nl D209 (own_nl D209 (own_nl D209 (own_nl D209 (own_nl D209 (own_nl D26 own_nin0)))))))))
    have F211 := (own_St F29 K10 (own_allS (own_plain F12) (own_allS (own_plain F12) (own_allS (own_plain F12) (own_allS (own_plain F12) (own_allS (own_plain F12) (own_allS (own_plain F12) (own_allS (own_plain F12) (own_allS (own_plain F11) own_all0)))))))))
    have F212 := (own_E F30 K10)
    have D213 : w_ABSORBED ≠ b1 := (Nat.ne_of_lt (Nat.lt_of_lt_of_le E_ABSORBED.lt le1))
    have F214 := (own_F (v := (.int (0 : Int32))) F33 K10 (own_nl D213 (own_nl D213 (own_nl D213 (own_nl D213 (own_nl D213 (own_nl D213 (own_nl D213 (own_nl D32 own_nin0)))))))))
    refine own_virtualUp Y41 hx (pc' := 72) (W := 0) (cl' := 6) (sl' := 51) (as' := [(.ref b10_0), (.int (1 : Int32))]) (S' := []) (a := b3) hZ hown (own_w hw 158 rfl) (own_w hw 159 rfl) (own_w hw 52 rfl) (own_w hw 160 rfl) (own_w hw 53 rfl) (own_w hw 19 rfl) (own_w hw 55 rfl) (by decide) F45 (rm7_53 l Z a0 hw [] b3 b10_0 b10_1 w_NULL_KEY b1 w_SPLIT w_ABSORBED h10 n0 (own_sz Y41) G10_8 G10_16 G10_22 G10_24 G10_20 G10_26 G10_27 (Nat.le_trans Z0 sz_b10_1) G10_29 F204 G10_30 G10_17 G10_32 G10_10 (Nat.le_trans Z0 sz_b10_0) G10_18 G10_12 G10_9 G10_14 G10_15 F205 F45 F206 F207 F208 F210 G10_31 F211 F212 F214 G10_19) (hb hby at_69) rfl (by rw [hml]; rfl) rfl (lenOf pd__Lcom_example_napkintree_napkintree_balancing_MultiwayTree_Node_I_V rfl) rfl (by decide) (by decide) rfl rfl (by decide) (by decide) P7_53_sz (own_fixR (S2 := []) rfl (fun T203 h203 Y203 R203 => ?_))
    obtain ⟨b203_0, K203, le_b203_0, G203_0, G203_1, G203_2, G203_3, G203_4, G203_5, G203_6, G203_7, G203_8, G203_9, G203_10, G203_11, G203_12, G203_13, G203_14, G203_15, G203_16, G203_17, G203_18, G203_19, G203_20, G203_21, G203_22, G203_23, G203_24, G203_25⟩ := R203
    have KC215 : own_Kp h0 h10 [] := (KC39.trans K10 (own_allS (Or.inr le1) (own_allS (Or.inr le1) (own_allS (Or.inr le1) (own_allS (Or.inr le1) (own_allS (Or.inr le1) (own_allS (Or.inr le1) (own_allS (Or.inr le1) (own_allS (Or.inr sz_b3) own_all0)))))))))
    have sz_b203_0 : Array.size h0 ≤ b203_0 := Nat.le_trans KC215.1 le_b203_0
    have F216 := (own_E F42 K203)
    have D217 : b1 ≠ b10_1 := (Nat.ne_of_lt (Nat.lt_of_lt_of_le F12.lt le_b10_1))
    have D218 : b1 ≠ b10_0 := (Nat.ne_of_lt (Nat.lt_of_lt_of_le F12.lt le_b10_0))
    have F219 := (own_F (v := .null) F43 K203 (own_nl D217 (own_nl D217 (own_nl D217 (own_nl D217 (own_nl D217 (own_nl D217 (own_nl D218 (own_nl D218 (own_nl D218 (own_nl D218 (own_nl D218 (own_nl D218 (own_nl D217 (own_nl D218 own_nin0)))))))))))))))
    have F220 := (own_F (v := .null) F44 K203 (own_nl D217 (own_nl D217 (own_nl D217 (own_nl D217 (own_nl D217 (own_nl D217 (own_nl D218 (own_nl D218 (own_nl D218 (own_nl D218 (own_nl D218 (own_nl D218 (own_nl D217 (own_nl D218 own_nin0)))))))))))))))
    have F221 := (own_F (v := .null) G10_0 K203 (own_nl D217 (own_nl D217 (own_nl D217 (own_nl D217 (own_nl D217 (own_nl D217 (own_nl D218 (own_nl D218 (own_nl D218 (own_nl D218 (own_nl D218 (own_nl D218 (own_nl D217 (own_nl D218 own_nin0)))))))))))))))
    have F222 := (own_F (v := .null) G10_1 K203 (own_nl D217 (own_nl D217 (own_nl D217 (own_nl D217 (own_nl D217 (own_nl D217 (own_nl D218 (own_nl D218 (own_nl D218 (own_nl D218 (own_nl D218 (own_nl D218 (own_nl D217 (own_nl D218 own_nin0)))))))))))))))
    have F223 := (own_E F45 K203)
    have F224 := (own_E G10_8 K203)
    have F225 := (own_F (v := (.ref b1)) G10_9 K203 (own_nl G10_32 (own_nl G10_32 (own_nl G10_32 (own_nl G10_32 (own_nl G10_32 (own_nl G10_32 (own_nr (sl_54 hw) (own_nr (sl_55 hw) (own_nr (sl_56 hw) (own_nr (sl_57 hw) (own_nr (sl_115 hw) (own_nr (sl_116 hw) (own_nl G10_32 (own_nr (sl_114 hw) own_nin0)))))))))))))))
    have F226 := (own_F (v := (.ref b10_1)) G10_16 K203 (own_nl G10_32 (own_nl G10_32 (own_nl G10_32 (own_nl G10_32 (own_nl G10_32 (own_nl G10_32 (own_nr (sl_72 hw) (own_nr (sl_73 hw) (own_nr (sl_74 hw) (own_nr (sl_75 hw) (own_nr (sl_76 hw) (own_nr (sl_78 hw) (own_nl G10_32 (own_nr (sl_112 hw) own_nin0)))))))))))))))
    rcases own_mod3 p2 with qL72 | qL72 | qL72
    ·
      rw [qL72]
      refine own_aload Y203 hx (pc' := 74) (hb hby at_72) rfl rfl rfl ?_
      refine own_aload Y203 hx (pc' := 76) (hb hby at_74) rfl rfl rfl ?_
      refine own_iload Y203 hx (pc' := 78) (hb hby at_76) rfl rfl ?_
      have F228 := (own_F (v := .null) G10_3 K203 (own_nl D217 (own_nl D217 (own_nl D217 (own_nl D217 (own_nl D217 (own_nl D217 (own_nl D218 (own_nl D218 (own_nl D218 (own_nl D218 (own_nl D218 (own_nl D218 (own_nl D217 (own_nl D218 own_nin0)))))))))))))))
      have F229 := (own_F (v := .null) G10_5 K203 (own_nl D217 (own_nl D217 (own_nl D217 (own_nl D217 (own_nl D217 (own_nl D217 (own_nl D218 (own_nl D218 (own_nl D218 (own_nl D218 (own_nl D218 (own_nl D218 (own_nl D217 (own_nl D218 own_nin0)))))))))))))))
      have F230 := (own_F (v := .null) G10_2 K203 (own_nl D217 (own_nl D217 (own_nl D217 (own_nl D217 (own_nl D217 (own_nl D217 (own_nl D218 (own_nl D218 (own_nl D218 (own_nl D218 (own_nl D218 (own_nl D218 (own_nl D217 (own_nl D218 own_nin0)))))))))))))))
      have F231 := (own_St F204 K203 (own_allS (own_plain G10_20) (own_allS (own_plain G10_20) (own_allS (own_plain G10_20) (own_allS (own_plain G10_20) (own_allS (own_plain G10_20) (own_allS (own_plain G10_20) (own_allS (own_plain G10_8) (own_allS (own_plain G10_8) (own_allS (own_plain G10_8) (own_allS (own_plain G10_8) (own_allS (own_plain G10_8) (own_allS (own_plain G10_8) (own_allS (own_plain G10_20) (own_allS (own_plain G10_8) own_all0)))))))))))))))
      have F232 := (own_F (v := .null) G10_4 K203 (own_nl D217 (own_nl D217 (own_nl D217 (own_nl D217 (own_nl D217 (own_nl D217 (own_nl D218 (own_nl D218 (own_nl D218 (own_nl D218 (own_nl D218 (own_nl D218 (own_nl D217 (own_nl D218 own_nin0)))))))))))))))
      have F233 := (own_F (v := (.ref w_NULL_KEY)) G10_11 K203 (own_nl G10_32 (own_nl G10_32 (own_nl G10_32 (own_nl G10_32 (own_nl G10_32 (own_nl G10_32 (own_nr (sl_30 hw) (own_nr (sl_31 hw) (own_nr (sl_39 hw) (own_nr (sl_40 hw) (own_nr (sl_85 hw) (own_nr (sl_86 hw) (own_nl G10_32 (own_nr (sl_110 hw) own_nin0)))))))))))))))
      have F234 := (own_F (v := .null) G10_13 K203 (own_nl G10_32 (own_nl G10_32 (own_nl G10_32 (own_nl G10_32 (own_nl G10_32 (own_nl G10_32 (own_nr (sl_35 hw) (own_nr (sl_36 hw) (own_nr (sl_37 hw) (own_nr (sl_41 hw) (own_nr (sl_88 hw) (own_nr (sl_89 hw) (own_nl G10_32 (own_nr (sl_111 hw) own_nin0)))))))))))))))
      have F235 := (own_St F205 K203 (own_allS (own_plain G10_20) (own_allS (own_plain G10_20) (own_allS (own_plain G10_20) (own_allS (own_plain G10_20) (own_allS (own_plain G10_20) (own_allS (own_plain G10_20) (own_allS (own_plain G10_8) (own_allS (own_plain G10_8) (own_allS (own_plain G10_8) (own_allS (own_plain G10_8) (own_allS (own_plain G10_8) (own_allS (own_plain G10_8) (own_allS (own_plain G10_20) (own_allS (own_plain G10_8) own_all0)))))))))))))))
      have D236 : b3 ≠ b10_1 := (Nat.ne_of_lt (Nat.lt_of_lt_of_le F11.lt le_b10_1))
      have D237 : b3 ≠ b10_0 := (Nat.ne_of_lt (Nat.lt_of_lt_of_le F11.lt le_b10_0))
      have F238 := (own_F (v := (.int (0 : Int32))) F206 K203 (own_nl D236 (own_nl D236 (own_nl D236 (own_nl D236 (own_nl D236 (own_nl D236 (own_nl D237 (own_nl D237 (own_nl D237 (own_nl D237 (own_nl D237 (own_nl D237 (own_nl D236 (own_nl D237 own_nin0)))))))))))))))
      have F239 := (own_St F207 K203 (own_allS (own_plain G10_20) (own_allS (own_plain G10_20) (own_allS (own_plain G10_20) (own_allS (own_plain G10_20) (own_allS (own_plain G10_20) (own_allS (own_plain G10_20) (own_allS (own_plain G10_8) (own_allS (own_plain G10_8) (own_allS (own_plain G10_8) (own_allS (own_plain G10_8) (own_allS (own_plain G10_8) (own_allS (own_plain G10_8) (own_allS (own_plain G10_20) (own_allS (own_plain G10_8) own_all0)))))))))))))))
      have F240 := (own_E F208 K203)
      have D241 : w_SPLIT ≠ b10_1 := (Nat.ne_of_lt (Nat.lt_of_lt_of_le F24.lt le_b10_1))
      have D242 : w_SPLIT ≠ b10_0 := (Nat.ne_of_lt (Nat.lt_of_lt_of_le F24.lt le_b10_0))
      have F243 := (own_F (v := (.int (1 : Int32))) F210 K203 (own_nl D241 (own_nl D241 (own_nl D241 (own_nl D241 (own_nl D241 (own_nl D241 (own_nl D242 (own_nl D242 (own_nl D242 (own_nl D242 (own_nl D242 (own_nl D242 (own_nl D241 (own_nl D242 own_nin0)))))))))))))))
      have F244 := (own_F (v := (.int (2 : Int32))) G10_6 K203 (own_nl D217 (own_nl D217 (own_nl D217 (own_nl D217 (own_nl D217 (own_nl D217 (own_nl D218 (own_nl D218 (own_nl D218 (own_nl D218 (own_nl D218 (own_nl D218 (own_nl D217 (own_nl D218 own_nin0)))))))))))))))
      have F245 := (own_St F211 K203 (own_allS (own_plain G10_20) (own_allS (own_plain G10_20) (own_allS (own_plain G10_20) (own_allS (own_plain G10_20) (own_allS (own_plain G10_20) (own_allS (own_plain G10_20) (own_allS (own_plain G10_8) (own_allS (own_plain G10_8) (own_allS (own_plain G10_8) (own_allS (own_plain G10_8) (own_allS (own_plain G10_8) (own_allS (own_plain G10_8) (own_allS (own_plain G10_20) (own_allS (own_plain G10_8) own_all0)))))))))))))))
      have F246 := (own_E F212 K203)
      have D247 : w_ABSORBED ≠ b10_1 := (Nat.ne_of_lt (Nat.lt_of_lt_of_le F30.lt le_b10_1))
      have D248 : w_ABSORBED ≠ b10_0 := (Nat.ne_of_lt (Nat.lt_of_lt_of_le F30.lt le_b10_0))
      have F249 := (own_F (v := (.int (0 : Int32))) F214 K203 (own_nl D247 (own_nl D247 (own_nl D247 (own_nl D247 (own_nl D247 (own_nl D247 (own_nl D248 (own_nl D248 (own_nl D248 (own_nl D248 (own_nl D248 (own_nl D248 (own_nl D247 (own_nl D248 own_nin0)))))))))))))))
      refine own_virtualUp Y203 hx (pc' := 81) (W := 0) (cl' := 7) (sl' := 62) (as' := [(.ref b10_0), (.int (0 : Int32))]) (S' := []) (a := b3) hZ hown (own_w hw 158 rfl) (own_w hw 159 rfl) (own_w hw 52 rfl) (own_w hw 160 rfl) (own_w hw 53 rfl) (own_w hw 19 rfl) (own_w hw 55 rfl) (by decide) F223 (rm7_33 l Z a0 hw [] b3 b10_0 b1 w_NULL_KEY b203_0 b10_1 w_SPLIT w_ABSORBED h203 n0 (own_sz Y203) F224 F225 F228 F229 F216 F221 F222 (Nat.le_trans Z0 le1) F230 F231 F232 G203_8 (Ne.symm D218) G203_6 (Nat.le_trans Z0 sz_b10_0) G203_9 G203_7 F233 F234 G203_11 G203_10 F226 F235 F223 F238 F239 F240 F243 F244 F245 F246 F249 G203_13) (hb hby at_78) rfl (by rw [hml]; rfl) rfl (lenOf pd__Lcom_example_napkintree_napkintree_balancing_MultiwayTree_Node_I_V rfl) rfl (by decide) (by decide) rfl rfl (by decide) (by decide) P7_33_sz (own_fixR (S2 := []) rfl (fun T227 h227 Y227 R227 => ?_))
      obtain ⟨b227_0, K227, le_b227_0, G227_0, G227_1, G227_2, G227_3, G227_4, G227_5, G227_6, G227_7, G227_8, G227_9, G227_10, G227_11, G227_12, G227_13, G227_14, G227_15, G227_16, G227_17, G227_18, G227_19, G227_20, G227_21, G227_22, G227_23, G227_24, G227_25, G227_26, G227_27, G227_28⟩ := R227
      have KC250 : own_Kp h0 h203 [] := (KC215.trans K203 (own_allS (Or.inr sz_b10_1) (own_allS (Or.inr sz_b10_1) (own_allS (Or.inr sz_b10_1) (own_allS (Or.inr sz_b10_1) (own_allS (Or.inr sz_b10_1) (own_allS (Or.inr sz_b10_1) (own_allS (Or.inr sz_b10_0) (own_allS (Or.inr sz_b10_0) (own_allS (Or.inr sz_b10_0) (own_allS (Or.inr sz_b10_0) (own_allS (Or.inr sz_b10_0) (own_allS (Or.inr sz_b10_0) (own_allS (Or.inr sz_b10_1) (own_allS (Or.inr sz_b10_0) own_all0)))))))))))))))
      have sz_b227_0 : Array.size h0 ≤ b227_0 := Nat.le_trans KC250.1 le_b227_0
      have F251 := (own_E F216 K227)
      have F252 := (own_F (v := .null) F219 K227 (own_nr (sl_116 hw) (own_nr (sl_115 hw) (own_nr (sl_56 hw) (own_nr (sl_54 hw) (own_nr (sl_57 hw) (own_nr (sl_55 hw) (own_nl D218 (own_nl D218 (own_nl D218 (own_nl D218 (own_nl D218 (own_nl D218 (own_nl D218 (own_nl D218 (own_nl D218 (own_nr (sl_114 hw) (own_nl D218 own_nin0))))))))))))))))))
      have F253 := (own_F (v := .null) F220 K227 (own_nr (sl_78 hw) (own_nr (sl_76 hw) (own_nr (sl_74 hw) (own_nr (sl_72 hw) (own_nr (sl_75 hw) (own_nr (sl_73 hw) (own_nl D218 (own_nl D218 (own_nl D218 (own_nl D218 (own_nl D218 (own_nl D218 (own_nl D218 (own_nl D218 (own_nl D218 (own_nr (sl_112 hw) (own_nl D218 own_nin0))))))))))))))))))
      have F254 := (own_E F223 K227)
      have F255 := (own_E F224 K227)
      have F256 := (own_F (v := (.ref b1)) F225 K227 (own_nl (Ne.symm D218) (own_nl (Ne.symm D218) (own_nl (Ne.symm D218) (own_nl (Ne.symm D218) (own_nl (Ne.symm D218) (own_nl (Ne.symm D218) (own_nr (sl_54 hw) (own_nr (sl_55 hw) (own_nr (sl_56 hw) (own_nr (sl_57 hw) (own_nr (sl_5 hw) (own_nr (sl_6 hw) (own_nr (sl_115 hw) (own_nr (sl_116 hw) (own_nr (sl_113 hw) (own_nl (Ne.symm D218) (own_nr (sl_114 hw) own_nin0))))))))))))))))))
      rcases own_mask4 p0 with qL81 | qL81 | qL81 | qL81
      ·
        rw [qL81]
        refine own_aload Y227 hx (pc' := 83) (hb hby at_81) rfl rfl rfl ?_
        refine own_iload Y227 hx (pc' := 85) (hb hby at_83) rfl rfl ?_
        refine own_virtual Y227 hx (pc' := 88) (W := 0) (cl' := 7) (sl' := 62) (as' := [(.int (0 : Int32))]) (S' := []) (a := b10_0) hZ hown (own_w hw 161 rfl) (own_w hw 57 rfl) (notFace_of_selects (args := #[]) (mvT hZ (own_w hw 59 rfl))) (own_w hw 59 rfl) (own_w hw 58 rfl) (own_w hw 3 rfl) (own_w hw 60 rfl) (by decide) F255 (rm8_5 l Z a0 hw [] b10_0 b1 h227 n0 (own_sz Y227) F256) (hb hby at_85) rfl (by rw [hml]; rfl) rfl (lenOf pd__I_Lcom_example_napkintree_napkintree_balancing_MultiwayTree_Node_ rfl) rfl (by decide) (by decide) rfl rfl (by decide) (by decide) own_Same.sz (own_fixS (S2 := [(.ref b1)]) rfl (fun T257 Y257 => ?_))
        refine own_astore Y257 hx (pc' := 90) (Ls' := #[.val (.int p0), .val (.int p1), .val (.int p2), .val (.int p3), .val (.int (0 : Int32)), .val (.int (p3 &&& (3 : Int32))), .val (.int (1 : Int32)), .val (.int (0 : Int32)), .val (.ref b1), .val (.ref b3), .val (.ref b10_0), .val (.ref b1), .unset, .unset]) (hb hby at_88) rfl rfl rfl ?_
        refine own_aload Y257 hx (pc' := 92) (hb hby at_90) rfl rfl rfl ?_
        refine own_ifnullNo Y257 hx (pc' := 95) (hb hby at_92) rfl ?_
        refine own_aload Y257 hx (pc' := 97) (hb hby at_95) rfl rfl rfl ?_
        refine own_aload Y257 hx (pc' := 99) (hb hby at_97) rfl rfl rfl ?_
        refine own_acmp Y257 hx (pc' := 102) (same := false) (hb hby at_99) rfl rfl (decide_eq_false fun q => D218 (Value.ref.inj q)) (by decide) (by decide) ?_
        refine own_iload Y257 hx (pc' := 104) (hb hby at_102) rfl rfl ?_
        refine own_ifNo Y257 hx (pc' := 107) (hb hby at_104) rfl (by decide) ?_
        refine own_iconst Y257 hx (pc' := 108) (x := (1 : Int32)) (hb hby at_107) rfl (by decide) ?_
        refine own_goto Y257 hx (pc' := 112) (hb hby at_108) (by decide) (by decide) ?_
        refine own_aload Y257 hx (pc' := 114) (hb hby at_112) rfl rfl rfl ?_
        refine own_aload Y257 hx (pc' := 116) (hb hby at_114) rfl rfl rfl ?_
        refine own_acmp Y257 hx (pc' := 119) (same := true) (hb hby at_116) rfl rfl (decide_eq_true rfl) (by decide) (by decide) ?_
        refine own_iconst Y257 hx (pc' := 120) (x := (1 : Int32)) (hb hby at_119) rfl (by decide) ?_
        refine own_goto Y257 hx (pc' := 124) (hb hby at_120) (by decide) (by decide) ?_
        refine own_icmpNo Y257 hx (pc' := 127) (hb hby at_124) rfl (by decide) ?_
        refine own_aload Y257 hx (pc' := 129) (hb hby at_127) rfl rfl rfl ?_
        refine own_aload Y257 hx (pc' := 131) (hb hby at_129) rfl rfl rfl ?_
        refine own_virtual Y257 hx (pc' := 134) (W := 0) (cl' := 7) (sl' := 62) (as' := [(.ref b1)]) (S' := []) (a := b10_0) hZ hown (own_w hw 162 rfl) (own_w hw 163 rfl) (notFace_of_selects (args := #[]) (mvT hZ (own_w hw 165 rfl))) (own_w hw 165 rfl) (own_w hw 164 rfl) (own_w hw 3 rfl) (own_w hw 166 rfl) (by decide) F255 (rm20_34 l Z a0 hw [] b10_0 b1 h227 n0 (own_sz Y257) F256) (hb hby at_131) rfl (by rw [hml]; rfl) rfl (lenOf pd__Lcom_example_napkintree_napkintree_balancing_MultiwayTree_Node__I rfl) rfl (by decide) (by decide) rfl rfl (by decide) (by decide) own_Same.sz (own_fixS (S2 := [(.int (0 : Int32))]) rfl (fun T258 Y258 => ?_))
        refine own_iload Y258 hx (pc' := 136) (hb hby at_134) rfl rfl ?_
        refine own_icmpNo Y258 hx (pc' := 139) (hb hby at_136) rfl (by decide) ?_
        refine own_iconst Y258 hx (pc' := 140) (x := (1 : Int32)) (hb hby at_139) rfl (by decide) ?_
        refine own_goto Y258 hx (pc' := 144) (hb hby at_140) (by decide) (by decide) ?_
        refine own_istore Y258 hx (pc' := 146) (Ls' := #[.val (.int p0), .val (.int p1), .val (.int p2), .val (.int p3), .val (.int (0 : Int32)), .val (.int (p3 &&& (3 : Int32))), .val (.int (1 : Int32)), .val (.int (0 : Int32)), .val (.ref b1), .val (.ref b3), .val (.ref b10_0), .val (.ref b1), .val (.int (1 : Int32)), .unset]) (hb hby at_144) rfl rfl ?_
        refine own_aload Y258 hx (pc' := 148) (hb hby at_146) rfl rfl rfl ?_
        refine own_iload Y258 hx (pc' := 150) (hb hby at_148) rfl rfl ?_
        refine own_virtual Y258 hx (pc' := 153) (W := 0) (cl' := 7) (sl' := 62) (as' := [(.int (p3 &&& (3 : Int32)))]) (S' := []) (a := b1) hZ hown (own_w hw 161 rfl) (own_w hw 57 rfl) (notFace_of_selects (args := #[]) (mvT hZ (own_w hw 59 rfl))) (own_w hw 59 rfl) (own_w hw 58 rfl) (own_w hw 3 rfl) (own_w hw 60 rfl) (by decide) F251 (rm8_35 l Z a0 hw [] b1 (p3 &&& (3 : Int32)) h227 n0 (own_sz Y258) F252 F253 G227_0 G227_1) (hb hby at_150) rfl (by rw [hml]; rfl) rfl (lenOf pd__I_Lcom_example_napkintree_napkintree_balancing_MultiwayTree_Node_ rfl) rfl (by decide) (by decide) rfl rfl (by decide) (by decide) own_Same.sz (own_fixS (S2 := [.null]) rfl (fun T259 Y259 => ?_))
        refine own_ifnonnullNo Y259 hx (pc' := 156) (hb hby at_153) rfl ?_
        refine own_iconst Y259 hx (pc' := 157) (x := (1 : Int32)) (hb hby at_156) rfl (by decide) ?_
        refine own_goto Y259 hx (pc' := 161) (hb hby at_157) (by decide) (by decide) ?_
        refine own_istore Y259 hx (pc' := 163) (Ls' := #[.val (.int p0), .val (.int p1), .val (.int p2), .val (.int p3), .val (.int (0 : Int32)), .val (.int (p3 &&& (3 : Int32))), .val (.int (1 : Int32)), .val (.int (0 : Int32)), .val (.ref b1), .val (.ref b3), .val (.ref b10_0), .val (.ref b1), .val (.int (1 : Int32)), .val (.int (1 : Int32))]) (hb hby at_161) rfl rfl ?_
        refine own_iload Y259 hx (pc' := 165) (hb hby at_163) rfl rfl ?_
        refine own_ifNo Y259 hx (pc' := 168) (hb hby at_165) rfl (by decide) ?_
        refine own_iload Y259 hx (pc' := 170) (hb hby at_168) rfl rfl ?_
        refine own_ifNo Y259 hx (pc' := 173) (hb hby at_170) rfl (by decide) ?_
        refine own_iconst Y259 hx (pc' := 174) (x := (1 : Int32)) (hb hby at_173) rfl (by decide) ?_
        refine own_goto Y259 hx (pc' := 178) (hb hby at_174) (by decide) (by decide) ?_
        exact own_retN Y259 hx hlk Bd.returns rfl (by simp) (hb hby at_178) ⟨rfl, trivial⟩ (by decide) (by decide)
      ·
        rw [qL81]
        refine own_aload Y227 hx (pc' := 83) (hb hby at_81) rfl rfl rfl ?_
        refine own_iload Y227 hx (pc' := 85) (hb hby at_83) rfl rfl ?_
        refine own_virtual Y227 hx (pc' := 88) (W := 0) (cl' := 7) (sl' := 62) (as' := [(.int (1 : Int32))]) (S' := []) (a := b10_0) hZ hown (own_w hw 161 rfl) (own_w hw 57 rfl) (notFace_of_selects (args := #[]) (mvT hZ (own_w hw 59 rfl))) (own_w hw 59 rfl) (own_w hw 58 rfl) (own_w hw 3 rfl) (own_w hw 60 rfl) (by decide) F255 (rm8_36 l Z a0 hw [] b10_0 b227_0 h227 n0 (own_sz Y227) G227_14) (hb hby at_85) rfl (by rw [hml]; rfl) rfl (lenOf pd__I_Lcom_example_napkintree_napkintree_balancing_MultiwayTree_Node_ rfl) rfl (by decide) (by decide) rfl rfl (by decide) (by decide) own_Same.sz (own_fixS (S2 := [(.ref b227_0)]) rfl (fun T260 Y260 => ?_))
        refine own_astore Y260 hx (pc' := 90) (Ls' := #[.val (.int p0), .val (.int p1), .val (.int p2), .val (.int p3), .val (.int (1 : Int32)), .val (.int (p3 &&& (3 : Int32))), .val (.int (1 : Int32)), .val (.int (0 : Int32)), .val (.ref b1), .val (.ref b3), .val (.ref b10_0), .val (.ref b227_0), .unset, .unset]) (hb hby at_88) rfl rfl rfl ?_
        refine own_aload Y260 hx (pc' := 92) (hb hby at_90) rfl rfl rfl ?_
        refine own_ifnullNo Y260 hx (pc' := 95) (hb hby at_92) rfl ?_
        refine own_aload Y260 hx (pc' := 97) (hb hby at_95) rfl rfl rfl ?_
        refine own_aload Y260 hx (pc' := 99) (hb hby at_97) rfl rfl rfl ?_
        have D261 : b10_0 ≠ b227_0 := (Nat.ne_of_lt (Nat.lt_of_lt_of_le F224.lt le_b227_0))
        refine own_acmp Y260 hx (pc' := 102) (same := false) (hb hby at_99) rfl rfl (decide_eq_false fun q => (Ne.symm D261) (Value.ref.inj q)) (by decide) (by decide) ?_
        refine own_iload Y260 hx (pc' := 104) (hb hby at_102) rfl rfl ?_
        refine own_ifYes Y260 hx (pc' := 111) (hb hby at_104) (by decide) (by decide) (by decide) ?_
        refine own_iconst Y260 hx (pc' := 112) (x := (0 : Int32)) (hb hby at_111) rfl (by decide) ?_
        refine own_aload Y260 hx (pc' := 114) (hb hby at_112) rfl rfl rfl ?_
        refine own_aload Y260 hx (pc' := 116) (hb hby at_114) rfl rfl rfl ?_
        have D262 : b1 ≠ b227_0 := (Nat.ne_of_lt (Nat.lt_of_lt_of_le F216.lt le_b227_0))
        refine own_acmp Y260 hx (pc' := 123) (same := false) (hb hby at_116) rfl rfl (decide_eq_false fun q => (Ne.symm D262) (Value.ref.inj q)) (by decide) (by decide) ?_
        refine own_iconst Y260 hx (pc' := 124) (x := (0 : Int32)) (hb hby at_123) rfl (by decide) ?_
        refine own_icmpNo Y260 hx (pc' := 127) (hb hby at_124) rfl (by decide) ?_
        refine own_aload Y260 hx (pc' := 129) (hb hby at_127) rfl rfl rfl ?_
        refine own_aload Y260 hx (pc' := 131) (hb hby at_129) rfl rfl rfl ?_
        refine own_virtual Y260 hx (pc' := 134) (W := 0) (cl' := 7) (sl' := 62) (as' := [(.ref b227_0)]) (S' := []) (a := b10_0) hZ hown (own_w hw 162 rfl) (own_w hw 163 rfl) (notFace_of_selects (args := #[]) (mvT hZ (own_w hw 165 rfl))) (own_w hw 165 rfl) (own_w hw 164 rfl) (own_w hw 3 rfl) (own_w hw 166 rfl) (by decide) F255 (rm20_37 l Z a0 hw [] b10_0 b227_0 b1 h227 n0 (own_sz Y260) F256 (Ne.symm D262) G227_14) (hb hby at_131) rfl (by rw [hml]; rfl) rfl (lenOf pd__Lcom_example_napkintree_napkintree_balancing_MultiwayTree_Node__I rfl) rfl (by decide) (by decide) rfl rfl (by decide) (by decide) own_Same.sz (own_fixS (S2 := [(.int (1 : Int32))]) rfl (fun T263 Y263 => ?_))
        refine own_iload Y263 hx (pc' := 136) (hb hby at_134) rfl rfl ?_
        refine own_icmpNo Y263 hx (pc' := 139) (hb hby at_136) rfl (by decide) ?_
        refine own_iconst Y263 hx (pc' := 140) (x := (1 : Int32)) (hb hby at_139) rfl (by decide) ?_
        refine own_goto Y263 hx (pc' := 144) (hb hby at_140) (by decide) (by decide) ?_
        refine own_istore Y263 hx (pc' := 146) (Ls' := #[.val (.int p0), .val (.int p1), .val (.int p2), .val (.int p3), .val (.int (1 : Int32)), .val (.int (p3 &&& (3 : Int32))), .val (.int (1 : Int32)), .val (.int (0 : Int32)), .val (.ref b1), .val (.ref b3), .val (.ref b10_0), .val (.ref b227_0), .val (.int (1 : Int32)), .unset]) (hb hby at_144) rfl rfl ?_
        refine own_aload Y263 hx (pc' := 148) (hb hby at_146) rfl rfl rfl ?_
        refine own_iload Y263 hx (pc' := 150) (hb hby at_148) rfl rfl ?_
        refine own_virtual Y263 hx (pc' := 153) (W := 0) (cl' := 7) (sl' := 62) (as' := [(.int (p3 &&& (3 : Int32)))]) (S' := []) (a := b1) hZ hown (own_w hw 161 rfl) (own_w hw 57 rfl) (notFace_of_selects (args := #[]) (mvT hZ (own_w hw 59 rfl))) (own_w hw 59 rfl) (own_w hw 58 rfl) (own_w hw 3 rfl) (own_w hw 60 rfl) (by decide) F251 (rm8_35 l Z a0 hw [] b1 (p3 &&& (3 : Int32)) h227 n0 (own_sz Y263) F252 F253 G227_0 G227_1) (hb hby at_150) rfl (by rw [hml]; rfl) rfl (lenOf pd__I_Lcom_example_napkintree_napkintree_balancing_MultiwayTree_Node_ rfl) rfl (by decide) (by decide) rfl rfl (by decide) (by decide) own_Same.sz (own_fixS (S2 := [.null]) rfl (fun T264 Y264 => ?_))
        refine own_ifnonnullNo Y264 hx (pc' := 156) (hb hby at_153) rfl ?_
        refine own_iconst Y264 hx (pc' := 157) (x := (1 : Int32)) (hb hby at_156) rfl (by decide) ?_
        refine own_goto Y264 hx (pc' := 161) (hb hby at_157) (by decide) (by decide) ?_
        refine own_istore Y264 hx (pc' := 163) (Ls' := #[.val (.int p0), .val (.int p1), .val (.int p2), .val (.int p3), .val (.int (1 : Int32)), .val (.int (p3 &&& (3 : Int32))), .val (.int (1 : Int32)), .val (.int (0 : Int32)), .val (.ref b1), .val (.ref b3), .val (.ref b10_0), .val (.ref b227_0), .val (.int (1 : Int32)), .val (.int (1 : Int32))]) (hb hby at_161) rfl rfl ?_
        refine own_iload Y264 hx (pc' := 165) (hb hby at_163) rfl rfl ?_
        refine own_ifNo Y264 hx (pc' := 168) (hb hby at_165) rfl (by decide) ?_
        refine own_iload Y264 hx (pc' := 170) (hb hby at_168) rfl rfl ?_
        refine own_ifNo Y264 hx (pc' := 173) (hb hby at_170) rfl (by decide) ?_
        refine own_iconst Y264 hx (pc' := 174) (x := (1 : Int32)) (hb hby at_173) rfl (by decide) ?_
        refine own_goto Y264 hx (pc' := 178) (hb hby at_174) (by decide) (by decide) ?_
        exact own_retN Y264 hx hlk Bd.returns rfl (by simp) (hb hby at_178) ⟨rfl, trivial⟩ (by decide) (by decide)
      ·
        rw [qL81]
        refine own_aload Y227 hx (pc' := 83) (hb hby at_81) rfl rfl rfl ?_
        refine own_iload Y227 hx (pc' := 85) (hb hby at_83) rfl rfl ?_
        refine own_virtual Y227 hx (pc' := 88) (W := 0) (cl' := 7) (sl' := 62) (as' := [(.int (2 : Int32))]) (S' := []) (a := b10_0) hZ hown (own_w hw 161 rfl) (own_w hw 57 rfl) (notFace_of_selects (args := #[]) (mvT hZ (own_w hw 59 rfl))) (own_w hw 59 rfl) (own_w hw 58 rfl) (own_w hw 3 rfl) (own_w hw 60 rfl) (by decide) F255 (rm8_38 l Z a0 hw [] b10_0 b10_1 h227 n0 (own_sz Y227) G227_13) (hb hby at_85) rfl (by rw [hml]; rfl) rfl (lenOf pd__I_Lcom_example_napkintree_napkintree_balancing_MultiwayTree_Node_ rfl) rfl (by decide) (by decide) rfl rfl (by decide) (by decide) own_Same.sz (own_fixS (S2 := [(.ref b10_1)]) rfl (fun T265 Y265 => ?_))
        refine own_astore Y265 hx (pc' := 90) (Ls' := #[.val (.int p0), .val (.int p1), .val (.int p2), .val (.int p3), .val (.int (2 : Int32)), .val (.int (p3 &&& (3 : Int32))), .val (.int (1 : Int32)), .val (.int (0 : Int32)), .val (.ref b1), .val (.ref b3), .val (.ref b10_0), .val (.ref b10_1), .unset, .unset]) (hb hby at_88) rfl rfl rfl ?_
        refine own_aload Y265 hx (pc' := 92) (hb hby at_90) rfl rfl rfl ?_
        refine own_ifnullNo Y265 hx (pc' := 95) (hb hby at_92) rfl ?_
        refine own_aload Y265 hx (pc' := 97) (hb hby at_95) rfl rfl rfl ?_
        refine own_aload Y265 hx (pc' := 99) (hb hby at_97) rfl rfl rfl ?_
        refine own_acmp Y265 hx (pc' := 102) (same := false) (hb hby at_99) rfl rfl (decide_eq_false fun q => (Ne.symm G10_32) (Value.ref.inj q)) (by decide) (by decide) ?_
        refine own_iload Y265 hx (pc' := 104) (hb hby at_102) rfl rfl ?_
        refine own_ifYes Y265 hx (pc' := 111) (hb hby at_104) (by decide) (by decide) (by decide) ?_
        refine own_iconst Y265 hx (pc' := 112) (x := (0 : Int32)) (hb hby at_111) rfl (by decide) ?_
        refine own_aload Y265 hx (pc' := 114) (hb hby at_112) rfl rfl rfl ?_
        refine own_aload Y265 hx (pc' := 116) (hb hby at_114) rfl rfl rfl ?_
        refine own_acmp Y265 hx (pc' := 123) (same := false) (hb hby at_116) rfl rfl (decide_eq_false fun q => (Ne.symm D217) (Value.ref.inj q)) (by decide) (by decide) ?_
        refine own_iconst Y265 hx (pc' := 124) (x := (0 : Int32)) (hb hby at_123) rfl (by decide) ?_
        refine own_icmpNo Y265 hx (pc' := 127) (hb hby at_124) rfl (by decide) ?_
        refine own_aload Y265 hx (pc' := 129) (hb hby at_127) rfl rfl rfl ?_
        refine own_aload Y265 hx (pc' := 131) (hb hby at_129) rfl rfl rfl ?_
        have F267 := (own_E G10_20 K203)
        have D268 : b10_1 ≠ b227_0 := (Nat.ne_of_lt (Nat.lt_of_lt_of_le F267.lt le_b227_0))
        refine own_virtual Y265 hx (pc' := 134) (W := 0) (cl' := 7) (sl' := 62) (as' := [(.ref b10_1)]) (S' := []) (a := b10_0) hZ hown (own_w hw 162 rfl) (own_w hw 163 rfl) (notFace_of_selects (args := #[]) (mvT hZ (own_w hw 165 rfl))) (own_w hw 165 rfl) (own_w hw 164 rfl) (own_w hw 3 rfl) (own_w hw 166 rfl) (by decide) F255 (rm20_39 l Z a0 hw [] b10_0 b10_1 b1 b227_0 h227 n0 (own_sz Y265) F256 (Ne.symm D217) G227_14 D268 G227_13) (hb hby at_131) rfl (by rw [hml]; rfl) rfl (lenOf pd__Lcom_example_napkintree_napkintree_balancing_MultiwayTree_Node__I rfl) rfl (by decide) (by decide) rfl rfl (by decide) (by decide) own_Same.sz (own_fixS (S2 := [(.int (2 : Int32))]) rfl (fun T266 Y266 => ?_))
        refine own_iload Y266 hx (pc' := 136) (hb hby at_134) rfl rfl ?_
        refine own_icmpNo Y266 hx (pc' := 139) (hb hby at_136) rfl (by decide) ?_
        refine own_iconst Y266 hx (pc' := 140) (x := (1 : Int32)) (hb hby at_139) rfl (by decide) ?_
        refine own_goto Y266 hx (pc' := 144) (hb hby at_140) (by decide) (by decide) ?_
        refine own_istore Y266 hx (pc' := 146) (Ls' := #[.val (.int p0), .val (.int p1), .val (.int p2), .val (.int p3), .val (.int (2 : Int32)), .val (.int (p3 &&& (3 : Int32))), .val (.int (1 : Int32)), .val (.int (0 : Int32)), .val (.ref b1), .val (.ref b3), .val (.ref b10_0), .val (.ref b10_1), .val (.int (1 : Int32)), .unset]) (hb hby at_144) rfl rfl ?_
        refine own_aload Y266 hx (pc' := 148) (hb hby at_146) rfl rfl rfl ?_
        refine own_iload Y266 hx (pc' := 150) (hb hby at_148) rfl rfl ?_
        refine own_virtual Y266 hx (pc' := 153) (W := 0) (cl' := 7) (sl' := 62) (as' := [(.int (p3 &&& (3 : Int32)))]) (S' := []) (a := b1) hZ hown (own_w hw 161 rfl) (own_w hw 57 rfl) (notFace_of_selects (args := #[]) (mvT hZ (own_w hw 59 rfl))) (own_w hw 59 rfl) (own_w hw 58 rfl) (own_w hw 3 rfl) (own_w hw 60 rfl) (by decide) F251 (rm8_35 l Z a0 hw [] b1 (p3 &&& (3 : Int32)) h227 n0 (own_sz Y266) F252 F253 G227_0 G227_1) (hb hby at_150) rfl (by rw [hml]; rfl) rfl (lenOf pd__I_Lcom_example_napkintree_napkintree_balancing_MultiwayTree_Node_ rfl) rfl (by decide) (by decide) rfl rfl (by decide) (by decide) own_Same.sz (own_fixS (S2 := [.null]) rfl (fun T269 Y269 => ?_))
        refine own_ifnonnullNo Y269 hx (pc' := 156) (hb hby at_153) rfl ?_
        refine own_iconst Y269 hx (pc' := 157) (x := (1 : Int32)) (hb hby at_156) rfl (by decide) ?_
        refine own_goto Y269 hx (pc' := 161) (hb hby at_157) (by decide) (by decide) ?_
        refine own_istore Y269 hx (pc' := 163) (Ls' := #[.val (.int p0), .val (.int p1), .val (.int p2), .val (.int p3), .val (.int (2 : Int32)), .val (.int (p3 &&& (3 : Int32))), .val (.int (1 : Int32)), .val (.int (0 : Int32)), .val (.ref b1), .val (.ref b3), .val (.ref b10_0), .val (.ref b10_1), .val (.int (1 : Int32)), .val (.int (1 : Int32))]) (hb hby at_161) rfl rfl ?_
        refine own_iload Y269 hx (pc' := 165) (hb hby at_163) rfl rfl ?_
        refine own_ifNo Y269 hx (pc' := 168) (hb hby at_165) rfl (by decide) ?_
        refine own_iload Y269 hx (pc' := 170) (hb hby at_168) rfl rfl ?_
        refine own_ifNo Y269 hx (pc' := 173) (hb hby at_170) rfl (by decide) ?_
        refine own_iconst Y269 hx (pc' := 174) (x := (1 : Int32)) (hb hby at_173) rfl (by decide) ?_
        refine own_goto Y269 hx (pc' := 178) (hb hby at_174) (by decide) (by decide) ?_
        exact own_retN Y269 hx hlk Bd.returns rfl (by simp) (hb hby at_178) ⟨rfl, trivial⟩ (by decide) (by decide)
      ·
        rw [qL81]
        refine own_aload Y227 hx (pc' := 83) (hb hby at_81) rfl rfl rfl ?_
        refine own_iload Y227 hx (pc' := 85) (hb hby at_83) rfl rfl ?_
        refine own_virtual Y227 hx (pc' := 88) (W := 0) (cl' := 7) (sl' := 62) (as' := [(.int (3 : Int32))]) (S' := []) (a := b10_0) hZ hown (own_w hw 161 rfl) (own_w hw 57 rfl) (notFace_of_selects (args := #[]) (mvT hZ (own_w hw 59 rfl))) (own_w hw 59 rfl) (own_w hw 58 rfl) (own_w hw 3 rfl) (own_w hw 60 rfl) (by decide) F255 (rm8_40 l Z a0 hw [] b10_0 b203_0 h227 n0 (own_sz Y227) G227_12) (hb hby at_85) rfl (by rw [hml]; rfl) rfl (lenOf pd__I_Lcom_example_napkintree_napkintree_balancing_MultiwayTree_Node_ rfl) rfl (by decide) (by decide) rfl rfl (by decide) (by decide) own_Same.sz (own_fixS (S2 := [(.ref b203_0)]) rfl (fun T270 Y270 => ?_))
        refine own_astore Y270 hx (pc' := 90) (Ls' := #[.val (.int p0), .val (.int p1), .val (.int p2), .val (.int p3), .val (.int (3 : Int32)), .val (.int (p3 &&& (3 : Int32))), .val (.int (1 : Int32)), .val (.int (0 : Int32)), .val (.ref b1), .val (.ref b3), .val (.ref b10_0), .val (.ref b203_0), .unset, .unset]) (hb hby at_88) rfl rfl rfl ?_
        refine own_aload Y270 hx (pc' := 92) (hb hby at_90) rfl rfl rfl ?_
        refine own_ifnullNo Y270 hx (pc' := 95) (hb hby at_92) rfl ?_
        refine own_aload Y270 hx (pc' := 97) (hb hby at_95) rfl rfl rfl ?_
        refine own_aload Y270 hx (pc' := 99) (hb hby at_97) rfl rfl rfl ?_
        have D271 : b10_0 ≠ b203_0 := (Nat.ne_of_lt (Nat.lt_of_lt_of_le G10_8.lt le_b203_0))
        refine own_acmp Y270 hx (pc' := 102) (same := false) (hb hby at_99) rfl rfl (decide_eq_false fun q => (Ne.symm D271) (Value.ref.inj q)) (by decide) (by decide) ?_
        refine own_iload Y270 hx (pc' := 104) (hb hby at_102) rfl rfl ?_
        refine own_ifYes Y270 hx (pc' := 111) (hb hby at_104) (by decide) (by decide) (by decide) ?_
        refine own_iconst Y270 hx (pc' := 112) (x := (0 : Int32)) (hb hby at_111) rfl (by decide) ?_
        refine own_aload Y270 hx (pc' := 114) (hb hby at_112) rfl rfl rfl ?_
        refine own_aload Y270 hx (pc' := 116) (hb hby at_114) rfl rfl rfl ?_
        have D272 : b1 ≠ b203_0 := (Nat.ne_of_lt (Nat.lt_of_lt_of_le F42.lt le_b203_0))
        refine own_acmp Y270 hx (pc' := 123) (same := false) (hb hby at_116) rfl rfl (decide_eq_false fun q => (Ne.symm D272) (Value.ref.inj q)) (by decide) (by decide) ?_
        refine own_iconst Y270 hx (pc' := 124) (x := (0 : Int32)) (hb hby at_123) rfl (by decide) ?_
        refine own_icmpNo Y270 hx (pc' := 127) (hb hby at_124) rfl (by decide) ?_
        refine own_aload Y270 hx (pc' := 129) (hb hby at_127) rfl rfl rfl ?_
        refine own_aload Y270 hx (pc' := 131) (hb hby at_129) rfl rfl rfl ?_
        have D274 : b203_0 ≠ b227_0 := (Nat.ne_of_lt (Nat.lt_of_lt_of_le G203_14.lt le_b227_0))
        have D275 : b10_1 ≠ b203_0 := (Nat.ne_of_lt (Nat.lt_of_lt_of_le G10_20.lt le_b203_0))
        refine own_virtual Y270 hx (pc' := 134) (W := 0) (cl' := 7) (sl' := 62) (as' := [(.ref b203_0)]) (S' := []) (a := b10_0) hZ hown (own_w hw 162 rfl) (own_w hw 163 rfl) (notFace_of_selects (args := #[]) (mvT hZ (own_w hw 165 rfl))) (own_w hw 165 rfl) (own_w hw 164 rfl) (own_w hw 3 rfl) (own_w hw 166 rfl) (by decide) F255 (rm20_41 l Z a0 hw [] b10_0 b203_0 b1 b227_0 b10_1 h227 n0 (own_sz Y270) F256 (Ne.symm D272) G227_14 D274 G227_13 (Ne.symm D275)) (hb hby at_131) rfl (by rw [hml]; rfl) rfl (lenOf pd__Lcom_example_napkintree_napkintree_balancing_MultiwayTree_Node__I rfl) rfl (by decide) (by decide) rfl rfl (by decide) (by decide) own_Same.sz (own_fixS (S2 := [(.int (3 : Int32))]) rfl (fun T273 Y273 => ?_))
        refine own_iload Y273 hx (pc' := 136) (hb hby at_134) rfl rfl ?_
        refine own_icmpNo Y273 hx (pc' := 139) (hb hby at_136) rfl (by decide) ?_
        refine own_iconst Y273 hx (pc' := 140) (x := (1 : Int32)) (hb hby at_139) rfl (by decide) ?_
        refine own_goto Y273 hx (pc' := 144) (hb hby at_140) (by decide) (by decide) ?_
        refine own_istore Y273 hx (pc' := 146) (Ls' := #[.val (.int p0), .val (.int p1), .val (.int p2), .val (.int p3), .val (.int (3 : Int32)), .val (.int (p3 &&& (3 : Int32))), .val (.int (1 : Int32)), .val (.int (0 : Int32)), .val (.ref b1), .val (.ref b3), .val (.ref b10_0), .val (.ref b203_0), .val (.int (1 : Int32)), .unset]) (hb hby at_144) rfl rfl ?_
        refine own_aload Y273 hx (pc' := 148) (hb hby at_146) rfl rfl rfl ?_
        refine own_iload Y273 hx (pc' := 150) (hb hby at_148) rfl rfl ?_
        refine own_virtual Y273 hx (pc' := 153) (W := 0) (cl' := 7) (sl' := 62) (as' := [(.int (p3 &&& (3 : Int32)))]) (S' := []) (a := b1) hZ hown (own_w hw 161 rfl) (own_w hw 57 rfl) (notFace_of_selects (args := #[]) (mvT hZ (own_w hw 59 rfl))) (own_w hw 59 rfl) (own_w hw 58 rfl) (own_w hw 3 rfl) (own_w hw 60 rfl) (by decide) F251 (rm8_35 l Z a0 hw [] b1 (p3 &&& (3 : Int32)) h227 n0 (own_sz Y273) F252 F253 G227_0 G227_1) (hb hby at_150) rfl (by rw [hml]; rfl) rfl (lenOf pd__I_Lcom_example_napkintree_napkintree_balancing_MultiwayTree_Node_ rfl) rfl (by decide) (by decide) rfl rfl (by decide) (by decide) own_Same.sz (own_fixS (S2 := [.null]) rfl (fun T276 Y276 => ?_))
        refine own_ifnonnullNo Y276 hx (pc' := 156) (hb hby at_153) rfl ?_
        refine own_iconst Y276 hx (pc' := 157) (x := (1 : Int32)) (hb hby at_156) rfl (by decide) ?_
        refine own_goto Y276 hx (pc' := 161) (hb hby at_157) (by decide) (by decide) ?_
        refine own_istore Y276 hx (pc' := 163) (Ls' := #[.val (.int p0), .val (.int p1), .val (.int p2), .val (.int p3), .val (.int (3 : Int32)), .val (.int (p3 &&& (3 : Int32))), .val (.int (1 : Int32)), .val (.int (0 : Int32)), .val (.ref b1), .val (.ref b3), .val (.ref b10_0), .val (.ref b203_0), .val (.int (1 : Int32)), .val (.int (1 : Int32))]) (hb hby at_161) rfl rfl ?_
        refine own_iload Y276 hx (pc' := 165) (hb hby at_163) rfl rfl ?_
        refine own_ifNo Y276 hx (pc' := 168) (hb hby at_165) rfl (by decide) ?_
        refine own_iload Y276 hx (pc' := 170) (hb hby at_168) rfl rfl ?_
        refine own_ifNo Y276 hx (pc' := 173) (hb hby at_170) rfl (by decide) ?_
        refine own_iconst Y276 hx (pc' := 174) (x := (1 : Int32)) (hb hby at_173) rfl (by decide) ?_
        refine own_goto Y276 hx (pc' := 178) (hb hby at_174) (by decide) (by decide) ?_
        exact own_retN Y276 hx hlk Bd.returns rfl (by simp) (hb hby at_178) ⟨rfl, trivial⟩ (by decide) (by decide)
    ·
      rw [qL72]
      refine own_aload Y203 hx (pc' := 74) (hb hby at_72) rfl rfl rfl ?_
      refine own_aload Y203 hx (pc' := 76) (hb hby at_74) rfl rfl rfl ?_
      refine own_iload Y203 hx (pc' := 78) (hb hby at_76) rfl rfl ?_
      have F278 := (own_E G10_20 K203)
      have F279 := (own_St F204 K203 (own_allS (own_plain G10_20) (own_allS (own_plain G10_20) (own_allS (own_plain G10_20) (own_allS (own_plain G10_20) (own_allS (own_plain G10_20) (own_allS (own_plain G10_20) (own_allS (own_plain G10_8) (own_allS (own_plain G10_8) (own_allS (own_plain G10_8) (own_allS (own_plain G10_8) (own_allS (own_plain G10_8) (own_allS (own_plain G10_8) (own_allS (own_plain G10_20) (own_allS (own_plain G10_8) own_all0)))))))))))))))
      have F280 := (own_St F205 K203 (own_allS (own_plain G10_20) (own_allS (own_plain G10_20) (own_allS (own_plain G10_20) (own_allS (own_plain G10_20) (own_allS (own_plain G10_20) (own_allS (own_plain G10_20) (own_allS (own_plain G10_8) (own_allS (own_plain G10_8) (own_allS (own_plain G10_8) (own_allS (own_plain G10_8) (own_allS (own_plain G10_8) (own_allS (own_plain G10_8) (own_allS (own_plain G10_20) (own_allS (own_plain G10_8) own_all0)))))))))))))))
      have D281 : b3 ≠ b10_1 := (Nat.ne_of_lt (Nat.lt_of_lt_of_le F11.lt le_b10_1))
      have D282 : b3 ≠ b10_0 := (Nat.ne_of_lt (Nat.lt_of_lt_of_le F11.lt le_b10_0))
      have F283 := (own_F (v := (.int (0 : Int32))) F206 K203 (own_nl D281 (own_nl D281 (own_nl D281 (own_nl D281 (own_nl D281 (own_nl D281 (own_nl D282 (own_nl D282 (own_nl D282 (own_nl D282 (own_nl D282 (own_nl D282 (own_nl D281 (own_nl D282 own_nin0)))))))))))))))
      have F284 := (own_St F207 K203 (own_allS (own_plain G10_20) (own_allS (own_plain G10_20) (own_allS (own_plain G10_20) (own_allS (own_plain G10_20) (own_allS (own_plain G10_20) (own_allS (own_plain G10_20) (own_allS (own_plain G10_8) (own_allS (own_plain G10_8) (own_allS (own_plain G10_8) (own_allS (own_plain G10_8) (own_allS (own_plain G10_8) (own_allS (own_plain G10_8) (own_allS (own_plain G10_20) (own_allS (own_plain G10_8) own_all0)))))))))))))))
      have F285 := (own_E F208 K203)
      have D286 : w_SPLIT ≠ b10_1 := (Nat.ne_of_lt (Nat.lt_of_lt_of_le F24.lt le_b10_1))
      have D287 : w_SPLIT ≠ b10_0 := (Nat.ne_of_lt (Nat.lt_of_lt_of_le F24.lt le_b10_0))
      have F288 := (own_F (v := (.int (1 : Int32))) F210 K203 (own_nl D286 (own_nl D286 (own_nl D286 (own_nl D286 (own_nl D286 (own_nl D286 (own_nl D287 (own_nl D287 (own_nl D287 (own_nl D287 (own_nl D287 (own_nl D287 (own_nl D286 (own_nl D287 own_nin0)))))))))))))))
      have F289 := (own_St F211 K203 (own_allS (own_plain G10_20) (own_allS (own_plain G10_20) (own_allS (own_plain G10_20) (own_allS (own_plain G10_20) (own_allS (own_plain G10_20) (own_allS (own_plain G10_20) (own_allS (own_plain G10_8) (own_allS (own_plain G10_8) (own_allS (own_plain G10_8) (own_allS (own_plain G10_8) (own_allS (own_plain G10_8) (own_allS (own_plain G10_8) (own_allS (own_plain G10_20) (own_allS (own_plain G10_8) own_all0)))))))))))))))
      have F290 := (own_E F212 K203)
      have D291 : w_ABSORBED ≠ b10_1 := (Nat.ne_of_lt (Nat.lt_of_lt_of_le F30.lt le_b10_1))
      have D292 : w_ABSORBED ≠ b10_0 := (Nat.ne_of_lt (Nat.lt_of_lt_of_le F30.lt le_b10_0))
      have F293 := (own_F (v := (.int (0 : Int32))) F214 K203 (own_nl D291 (own_nl D291 (own_nl D291 (own_nl D291 (own_nl D291 (own_nl D291 (own_nl D292 (own_nl D292 (own_nl D292 (own_nl D292 (own_nl D292 (own_nl D292 (own_nl D291 (own_nl D292 own_nin0)))))))))))))))
      refine own_virtualUp Y203 hx (pc' := 81) (W := 0) (cl' := 7) (sl' := 62) (as' := [(.ref b10_0), (.int (1 : Int32))]) (S' := []) (a := b3) hZ hown (own_w hw 158 rfl) (own_w hw 159 rfl) (own_w hw 52 rfl) (own_w hw 160 rfl) (own_w hw 53 rfl) (own_w hw 19 rfl) (own_w hw 55 rfl) (by decide) F223 (rm7_45 l Z a0 hw [] b3 b10_0 b10_1 w_NULL_KEY b1 b203_0 w_SPLIT w_ABSORBED h203 n0 (own_sz Y203) F224 F226 G203_3 G203_5 F278 G203_0 G203_1 (Nat.le_trans Z0 sz_b10_1) G203_2 F279 G203_4 G203_8 G10_32 G203_6 (Nat.le_trans Z0 sz_b10_0) G203_9 G203_7 F225 G203_11 G203_10 F280 F223 F283 F284 F285 F288 G203_12 F289 F290 F293 G203_13) (hb hby at_78) rfl (by rw [hml]; rfl) rfl (lenOf pd__Lcom_example_napkintree_napkintree_balancing_MultiwayTree_Node_I_V rfl) rfl (by decide) (by decide) rfl rfl (by decide) (by decide) P7_45_sz (own_fixR (S2 := []) rfl (fun T277 h277 Y277 R277 => ?_))
      obtain ⟨b277_0, K277, le_b277_0, G277_0, G277_1, G277_2, G277_3, G277_4, G277_5, G277_6, G277_7, G277_8, G277_9, G277_10, G277_11, G277_12, G277_13, G277_14, G277_15, G277_16, G277_17, G277_18, G277_19, G277_20, G277_21, G277_22, G277_23, G277_24, G277_25⟩ := R277
      have KC294 : own_Kp h0 h203 [] := (KC215.trans K203 (own_allS (Or.inr sz_b10_1) (own_allS (Or.inr sz_b10_1) (own_allS (Or.inr sz_b10_1) (own_allS (Or.inr sz_b10_1) (own_allS (Or.inr sz_b10_1) (own_allS (Or.inr sz_b10_1) (own_allS (Or.inr sz_b10_0) (own_allS (Or.inr sz_b10_0) (own_allS (Or.inr sz_b10_0) (own_allS (Or.inr sz_b10_0) (own_allS (Or.inr sz_b10_0) (own_allS (Or.inr sz_b10_0) (own_allS (Or.inr sz_b10_1) (own_allS (Or.inr sz_b10_0) own_all0)))))))))))))))
      have sz_b277_0 : Array.size h0 ≤ b277_0 := Nat.le_trans KC294.1 le_b277_0
      have F295 := (own_E F216 K277)
      have F296 := (own_F (v := .null) F219 K277 (own_nl D217 (own_nl D217 (own_nl D217 (own_nl D217 (own_nl D217 (own_nl D217 (own_nl D218 (own_nl D218 (own_nl D218 (own_nl D218 (own_nl D218 (own_nl D218 (own_nl D217 (own_nl D218 own_nin0)))))))))))))))
      have F297 := (own_F (v := .null) F220 K277 (own_nl D217 (own_nl D217 (own_nl D217 (own_nl D217 (own_nl D217 (own_nl D217 (own_nl D218 (own_nl D218 (own_nl D218 (own_nl D218 (own_nl D218 (own_nl D218 (own_nl D217 (own_nl D218 own_nin0)))))))))))))))
      have F298 := (own_F (v := .null) F221 K277 (own_nl D217 (own_nl D217 (own_nl D217 (own_nl D217 (own_nl D217 (own_nl D217 (own_nl D218 (own_nl D218 (own_nl D218 (own_nl D218 (own_nl D218 (own_nl D218 (own_nl D217 (own_nl D218 own_nin0)))))))))))))))
      have F299 := (own_F (v := .null) F222 K277 (own_nl D217 (own_nl D217 (own_nl D217 (own_nl D217 (own_nl D217 (own_nl D217 (own_nl D218 (own_nl D218 (own_nl D218 (own_nl D218 (own_nl D218 (own_nl D218 (own_nl D217 (own_nl D218 own_nin0)))))))))))))))
      have F300 := (own_E F223 K277)
      have F301 := (own_E F224 K277)
      have F302 := (own_F (v := (.ref b1)) F225 K277 (own_nl G10_32 (own_nl G10_32 (own_nl G10_32 (own_nl G10_32 (own_nl G10_32 (own_nl G10_32 (own_nr (sl_54 hw) (own_nr (sl_55 hw) (own_nr (sl_56 hw) (own_nr (sl_57 hw) (own_nr (sl_115 hw) (own_nr (sl_116 hw) (own_nl G10_32 (own_nr (sl_114 hw) own_nin0)))))))))))))))
      have F303 := (own_F (v := (.ref b10_1)) F226 K277 (own_nl G10_32 (own_nl G10_32 (own_nl G10_32 (own_nl G10_32 (own_nl G10_32 (own_nl G10_32 (own_nr (sl_72 hw) (own_nr (sl_73 hw) (own_nr (sl_74 hw) (own_nr (sl_75 hw) (own_nr (sl_76 hw) (own_nr (sl_78 hw) (own_nl G10_32 (own_nr (sl_112 hw) own_nin0)))))))))))))))
      rcases own_mask4 p0 with qL81 | qL81 | qL81 | qL81
      ·
        rw [qL81]
        refine own_aload Y277 hx (pc' := 83) (hb hby at_81) rfl rfl rfl ?_
        refine own_iload Y277 hx (pc' := 85) (hb hby at_83) rfl rfl ?_
        refine own_virtual Y277 hx (pc' := 88) (W := 0) (cl' := 7) (sl' := 62) (as' := [(.int (0 : Int32))]) (S' := []) (a := b10_0) hZ hown (own_w hw 161 rfl) (own_w hw 57 rfl) (notFace_of_selects (args := #[]) (mvT hZ (own_w hw 59 rfl))) (own_w hw 59 rfl) (own_w hw 58 rfl) (own_w hw 3 rfl) (own_w hw 60 rfl) (by decide) F301 (rm8_5 l Z a0 hw [] b10_0 b1 h277 n0 (own_sz Y277) F302) (hb hby at_85) rfl (by rw [hml]; rfl) rfl (lenOf pd__I_Lcom_example_napkintree_napkintree_balancing_MultiwayTree_Node_ rfl) rfl (by decide) (by decide) rfl rfl (by decide) (by decide) own_Same.sz (own_fixS (S2 := [(.ref b1)]) rfl (fun T304 Y304 => ?_))
        refine own_astore Y304 hx (pc' := 90) (Ls' := #[.val (.int p0), .val (.int p1), .val (.int p2), .val (.int p3), .val (.int (0 : Int32)), .val (.int (p3 &&& (3 : Int32))), .val (.int (1 : Int32)), .val (.int (1 : Int32)), .val (.ref b1), .val (.ref b3), .val (.ref b10_0), .val (.ref b1), .unset, .unset]) (hb hby at_88) rfl rfl rfl ?_
        refine own_aload Y304 hx (pc' := 92) (hb hby at_90) rfl rfl rfl ?_
        refine own_ifnullNo Y304 hx (pc' := 95) (hb hby at_92) rfl ?_
        refine own_aload Y304 hx (pc' := 97) (hb hby at_95) rfl rfl rfl ?_
        refine own_aload Y304 hx (pc' := 99) (hb hby at_97) rfl rfl rfl ?_
        refine own_acmp Y304 hx (pc' := 102) (same := false) (hb hby at_99) rfl rfl (decide_eq_false fun q => D218 (Value.ref.inj q)) (by decide) (by decide) ?_
        refine own_iload Y304 hx (pc' := 104) (hb hby at_102) rfl rfl ?_
        refine own_ifNo Y304 hx (pc' := 107) (hb hby at_104) rfl (by decide) ?_
        refine own_iconst Y304 hx (pc' := 108) (x := (1 : Int32)) (hb hby at_107) rfl (by decide) ?_
        refine own_goto Y304 hx (pc' := 112) (hb hby at_108) (by decide) (by decide) ?_
        refine own_aload Y304 hx (pc' := 114) (hb hby at_112) rfl rfl rfl ?_
        refine own_aload Y304 hx (pc' := 116) (hb hby at_114) rfl rfl rfl ?_
        refine own_acmp Y304 hx (pc' := 119) (same := true) (hb hby at_116) rfl rfl (decide_eq_true rfl) (by decide) (by decide) ?_
        refine own_iconst Y304 hx (pc' := 120) (x := (1 : Int32)) (hb hby at_119) rfl (by decide) ?_
        refine own_goto Y304 hx (pc' := 124) (hb hby at_120) (by decide) (by decide) ?_
        refine own_icmpNo Y304 hx (pc' := 127) (hb hby at_124) rfl (by decide) ?_
        refine own_aload Y304 hx (pc' := 129) (hb hby at_127) rfl rfl rfl ?_
        refine own_aload Y304 hx (pc' := 131) (hb hby at_129) rfl rfl rfl ?_
        refine own_virtual Y304 hx (pc' := 134) (W := 0) (cl' := 7) (sl' := 62) (as' := [(.ref b1)]) (S' := []) (a := b10_0) hZ hown (own_w hw 162 rfl) (own_w hw 163 rfl) (notFace_of_selects (args := #[]) (mvT hZ (own_w hw 165 rfl))) (own_w hw 165 rfl) (own_w hw 164 rfl) (own_w hw 3 rfl) (own_w hw 166 rfl) (by decide) F301 (rm20_34 l Z a0 hw [] b10_0 b1 h277 n0 (own_sz Y304) F302) (hb hby at_131) rfl (by rw [hml]; rfl) rfl (lenOf pd__Lcom_example_napkintree_napkintree_balancing_MultiwayTree_Node__I rfl) rfl (by decide) (by decide) rfl rfl (by decide) (by decide) own_Same.sz (own_fixS (S2 := [(.int (0 : Int32))]) rfl (fun T305 Y305 => ?_))
        refine own_iload Y305 hx (pc' := 136) (hb hby at_134) rfl rfl ?_
        refine own_icmpNo Y305 hx (pc' := 139) (hb hby at_136) rfl (by decide) ?_
        refine own_iconst Y305 hx (pc' := 140) (x := (1 : Int32)) (hb hby at_139) rfl (by decide) ?_
        refine own_goto Y305 hx (pc' := 144) (hb hby at_140) (by decide) (by decide) ?_
        refine own_istore Y305 hx (pc' := 146) (Ls' := #[.val (.int p0), .val (.int p1), .val (.int p2), .val (.int p3), .val (.int (0 : Int32)), .val (.int (p3 &&& (3 : Int32))), .val (.int (1 : Int32)), .val (.int (1 : Int32)), .val (.ref b1), .val (.ref b3), .val (.ref b10_0), .val (.ref b1), .val (.int (1 : Int32)), .unset]) (hb hby at_144) rfl rfl ?_
        refine own_aload Y305 hx (pc' := 148) (hb hby at_146) rfl rfl rfl ?_
        refine own_iload Y305 hx (pc' := 150) (hb hby at_148) rfl rfl ?_
        refine own_virtual Y305 hx (pc' := 153) (W := 0) (cl' := 7) (sl' := 62) (as' := [(.int (p3 &&& (3 : Int32)))]) (S' := []) (a := b1) hZ hown (own_w hw 161 rfl) (own_w hw 57 rfl) (notFace_of_selects (args := #[]) (mvT hZ (own_w hw 59 rfl))) (own_w hw 59 rfl) (own_w hw 58 rfl) (own_w hw 3 rfl) (own_w hw 60 rfl) (by decide) F295 (rm8_35 l Z a0 hw [] b1 (p3 &&& (3 : Int32)) h277 n0 (own_sz Y305) F296 F297 F298 F299) (hb hby at_150) rfl (by rw [hml]; rfl) rfl (lenOf pd__I_Lcom_example_napkintree_napkintree_balancing_MultiwayTree_Node_ rfl) rfl (by decide) (by decide) rfl rfl (by decide) (by decide) own_Same.sz (own_fixS (S2 := [.null]) rfl (fun T306 Y306 => ?_))
        refine own_ifnonnullNo Y306 hx (pc' := 156) (hb hby at_153) rfl ?_
        refine own_iconst Y306 hx (pc' := 157) (x := (1 : Int32)) (hb hby at_156) rfl (by decide) ?_
        refine own_goto Y306 hx (pc' := 161) (hb hby at_157) (by decide) (by decide) ?_
        refine own_istore Y306 hx (pc' := 163) (Ls' := #[.val (.int p0), .val (.int p1), .val (.int p2), .val (.int p3), .val (.int (0 : Int32)), .val (.int (p3 &&& (3 : Int32))), .val (.int (1 : Int32)), .val (.int (1 : Int32)), .val (.ref b1), .val (.ref b3), .val (.ref b10_0), .val (.ref b1), .val (.int (1 : Int32)), .val (.int (1 : Int32))]) (hb hby at_161) rfl rfl ?_
        refine own_iload Y306 hx (pc' := 165) (hb hby at_163) rfl rfl ?_
        refine own_ifNo Y306 hx (pc' := 168) (hb hby at_165) rfl (by decide) ?_
        refine own_iload Y306 hx (pc' := 170) (hb hby at_168) rfl rfl ?_
        refine own_ifNo Y306 hx (pc' := 173) (hb hby at_170) rfl (by decide) ?_
        refine own_iconst Y306 hx (pc' := 174) (x := (1 : Int32)) (hb hby at_173) rfl (by decide) ?_
        refine own_goto Y306 hx (pc' := 178) (hb hby at_174) (by decide) (by decide) ?_
        exact own_retN Y306 hx hlk Bd.returns rfl (by simp) (hb hby at_178) ⟨rfl, trivial⟩ (by decide) (by decide)
      ·
        rw [qL81]
        refine own_aload Y277 hx (pc' := 83) (hb hby at_81) rfl rfl rfl ?_
        refine own_iload Y277 hx (pc' := 85) (hb hby at_83) rfl rfl ?_
        refine own_virtual Y277 hx (pc' := 88) (W := 0) (cl' := 7) (sl' := 62) (as' := [(.int (1 : Int32))]) (S' := []) (a := b10_0) hZ hown (own_w hw 161 rfl) (own_w hw 57 rfl) (notFace_of_selects (args := #[]) (mvT hZ (own_w hw 59 rfl))) (own_w hw 59 rfl) (own_w hw 58 rfl) (own_w hw 3 rfl) (own_w hw 60 rfl) (by decide) F301 (rm8_36 l Z a0 hw [] b10_0 b10_1 h277 n0 (own_sz Y277) F303) (hb hby at_85) rfl (by rw [hml]; rfl) rfl (lenOf pd__I_Lcom_example_napkintree_napkintree_balancing_MultiwayTree_Node_ rfl) rfl (by decide) (by decide) rfl rfl (by decide) (by decide) own_Same.sz (own_fixS (S2 := [(.ref b10_1)]) rfl (fun T307 Y307 => ?_))
        refine own_astore Y307 hx (pc' := 90) (Ls' := #[.val (.int p0), .val (.int p1), .val (.int p2), .val (.int p3), .val (.int (1 : Int32)), .val (.int (p3 &&& (3 : Int32))), .val (.int (1 : Int32)), .val (.int (1 : Int32)), .val (.ref b1), .val (.ref b3), .val (.ref b10_0), .val (.ref b10_1), .unset, .unset]) (hb hby at_88) rfl rfl rfl ?_
        refine own_aload Y307 hx (pc' := 92) (hb hby at_90) rfl rfl rfl ?_
        refine own_ifnullNo Y307 hx (pc' := 95) (hb hby at_92) rfl ?_
        refine own_aload Y307 hx (pc' := 97) (hb hby at_95) rfl rfl rfl ?_
        refine own_aload Y307 hx (pc' := 99) (hb hby at_97) rfl rfl rfl ?_
        refine own_acmp Y307 hx (pc' := 102) (same := false) (hb hby at_99) rfl rfl (decide_eq_false fun q => (Ne.symm G10_32) (Value.ref.inj q)) (by decide) (by decide) ?_
        refine own_iload Y307 hx (pc' := 104) (hb hby at_102) rfl rfl ?_
        refine own_ifYes Y307 hx (pc' := 111) (hb hby at_104) (by decide) (by decide) (by decide) ?_
        refine own_iconst Y307 hx (pc' := 112) (x := (0 : Int32)) (hb hby at_111) rfl (by decide) ?_
        refine own_aload Y307 hx (pc' := 114) (hb hby at_112) rfl rfl rfl ?_
        refine own_aload Y307 hx (pc' := 116) (hb hby at_114) rfl rfl rfl ?_
        refine own_acmp Y307 hx (pc' := 123) (same := false) (hb hby at_116) rfl rfl (decide_eq_false fun q => (Ne.symm D217) (Value.ref.inj q)) (by decide) (by decide) ?_
        refine own_iconst Y307 hx (pc' := 124) (x := (0 : Int32)) (hb hby at_123) rfl (by decide) ?_
        refine own_icmpNo Y307 hx (pc' := 127) (hb hby at_124) rfl (by decide) ?_
        refine own_aload Y307 hx (pc' := 129) (hb hby at_127) rfl rfl rfl ?_
        refine own_aload Y307 hx (pc' := 131) (hb hby at_129) rfl rfl rfl ?_
        refine own_virtual Y307 hx (pc' := 134) (W := 0) (cl' := 7) (sl' := 62) (as' := [(.ref b10_1)]) (S' := []) (a := b10_0) hZ hown (own_w hw 162 rfl) (own_w hw 163 rfl) (notFace_of_selects (args := #[]) (mvT hZ (own_w hw 165 rfl))) (own_w hw 165 rfl) (own_w hw 164 rfl) (own_w hw 3 rfl) (own_w hw 166 rfl) (by decide) F301 (rm20_37 l Z a0 hw [] b10_0 b10_1 b1 h277 n0 (own_sz Y307) F302 (Ne.symm D217) F303) (hb hby at_131) rfl (by rw [hml]; rfl) rfl (lenOf pd__Lcom_example_napkintree_napkintree_balancing_MultiwayTree_Node__I rfl) rfl (by decide) (by decide) rfl rfl (by decide) (by decide) own_Same.sz (own_fixS (S2 := [(.int (1 : Int32))]) rfl (fun T308 Y308 => ?_))
        refine own_iload Y308 hx (pc' := 136) (hb hby at_134) rfl rfl ?_
        refine own_icmpNo Y308 hx (pc' := 139) (hb hby at_136) rfl (by decide) ?_
        refine own_iconst Y308 hx (pc' := 140) (x := (1 : Int32)) (hb hby at_139) rfl (by decide) ?_
        refine own_goto Y308 hx (pc' := 144) (hb hby at_140) (by decide) (by decide) ?_
        refine own_istore Y308 hx (pc' := 146) (Ls' := #[.val (.int p0), .val (.int p1), .val (.int p2), .val (.int p3), .val (.int (1 : Int32)), .val (.int (p3 &&& (3 : Int32))), .val (.int (1 : Int32)), .val (.int (1 : Int32)), .val (.ref b1), .val (.ref b3), .val (.ref b10_0), .val (.ref b10_1), .val (.int (1 : Int32)), .unset]) (hb hby at_144) rfl rfl ?_
        refine own_aload Y308 hx (pc' := 148) (hb hby at_146) rfl rfl rfl ?_
        refine own_iload Y308 hx (pc' := 150) (hb hby at_148) rfl rfl ?_
        refine own_virtual Y308 hx (pc' := 153) (W := 0) (cl' := 7) (sl' := 62) (as' := [(.int (p3 &&& (3 : Int32)))]) (S' := []) (a := b1) hZ hown (own_w hw 161 rfl) (own_w hw 57 rfl) (notFace_of_selects (args := #[]) (mvT hZ (own_w hw 59 rfl))) (own_w hw 59 rfl) (own_w hw 58 rfl) (own_w hw 3 rfl) (own_w hw 60 rfl) (by decide) F295 (rm8_35 l Z a0 hw [] b1 (p3 &&& (3 : Int32)) h277 n0 (own_sz Y308) F296 F297 F298 F299) (hb hby at_150) rfl (by rw [hml]; rfl) rfl (lenOf pd__I_Lcom_example_napkintree_napkintree_balancing_MultiwayTree_Node_ rfl) rfl (by decide) (by decide) rfl rfl (by decide) (by decide) own_Same.sz (own_fixS (S2 := [.null]) rfl (fun T309 Y309 => ?_))
        refine own_ifnonnullNo Y309 hx (pc' := 156) (hb hby at_153) rfl ?_
        refine own_iconst Y309 hx (pc' := 157) (x := (1 : Int32)) (hb hby at_156) rfl (by decide) ?_
        refine own_goto Y309 hx (pc' := 161) (hb hby at_157) (by decide) (by decide) ?_
        refine own_istore Y309 hx (pc' := 163) (Ls' := #[.val (.int p0), .val (.int p1), .val (.int p2), .val (.int p3), .val (.int (1 : Int32)), .val (.int (p3 &&& (3 : Int32))), .val (.int (1 : Int32)), .val (.int (1 : Int32)), .val (.ref b1), .val (.ref b3), .val (.ref b10_0), .val (.ref b10_1), .val (.int (1 : Int32)), .val (.int (1 : Int32))]) (hb hby at_161) rfl rfl ?_
        refine own_iload Y309 hx (pc' := 165) (hb hby at_163) rfl rfl ?_
        refine own_ifNo Y309 hx (pc' := 168) (hb hby at_165) rfl (by decide) ?_
        refine own_iload Y309 hx (pc' := 170) (hb hby at_168) rfl rfl ?_
        refine own_ifNo Y309 hx (pc' := 173) (hb hby at_170) rfl (by decide) ?_
        refine own_iconst Y309 hx (pc' := 174) (x := (1 : Int32)) (hb hby at_173) rfl (by decide) ?_
        refine own_goto Y309 hx (pc' := 178) (hb hby at_174) (by decide) (by decide) ?_
        exact own_retN Y309 hx hlk Bd.returns rfl (by simp) (hb hby at_178) ⟨rfl, trivial⟩ (by decide) (by decide)
      ·
        rw [qL81]
        refine own_aload Y277 hx (pc' := 83) (hb hby at_81) rfl rfl rfl ?_
        refine own_iload Y277 hx (pc' := 85) (hb hby at_83) rfl rfl ?_
        refine own_virtual Y277 hx (pc' := 88) (W := 0) (cl' := 7) (sl' := 62) (as' := [(.int (2 : Int32))]) (S' := []) (a := b10_0) hZ hown (own_w hw 161 rfl) (own_w hw 57 rfl) (notFace_of_selects (args := #[]) (mvT hZ (own_w hw 59 rfl))) (own_w hw 59 rfl) (own_w hw 58 rfl) (own_w hw 3 rfl) (own_w hw 60 rfl) (by decide) F301 (rm8_38 l Z a0 hw [] b10_0 b277_0 h277 n0 (own_sz Y277) G277_11) (hb hby at_85) rfl (by rw [hml]; rfl) rfl (lenOf pd__I_Lcom_example_napkintree_napkintree_balancing_MultiwayTree_Node_ rfl) rfl (by decide) (by decide) rfl rfl (by decide) (by decide) own_Same.sz (own_fixS (S2 := [(.ref b277_0)]) rfl (fun T310 Y310 => ?_))
        refine own_astore Y310 hx (pc' := 90) (Ls' := #[.val (.int p0), .val (.int p1), .val (.int p2), .val (.int p3), .val (.int (2 : Int32)), .val (.int (p3 &&& (3 : Int32))), .val (.int (1 : Int32)), .val (.int (1 : Int32)), .val (.ref b1), .val (.ref b3), .val (.ref b10_0), .val (.ref b277_0), .unset, .unset]) (hb hby at_88) rfl rfl rfl ?_
        refine own_aload Y310 hx (pc' := 92) (hb hby at_90) rfl rfl rfl ?_
        refine own_ifnullNo Y310 hx (pc' := 95) (hb hby at_92) rfl ?_
        refine own_aload Y310 hx (pc' := 97) (hb hby at_95) rfl rfl rfl ?_
        refine own_aload Y310 hx (pc' := 99) (hb hby at_97) rfl rfl rfl ?_
        have D311 : b10_0 ≠ b277_0 := (Nat.ne_of_lt (Nat.lt_of_lt_of_le F224.lt le_b277_0))
        refine own_acmp Y310 hx (pc' := 102) (same := false) (hb hby at_99) rfl rfl (decide_eq_false fun q => (Ne.symm D311) (Value.ref.inj q)) (by decide) (by decide) ?_
        refine own_iload Y310 hx (pc' := 104) (hb hby at_102) rfl rfl ?_
        refine own_ifYes Y310 hx (pc' := 111) (hb hby at_104) (by decide) (by decide) (by decide) ?_
        refine own_iconst Y310 hx (pc' := 112) (x := (0 : Int32)) (hb hby at_111) rfl (by decide) ?_
        refine own_aload Y310 hx (pc' := 114) (hb hby at_112) rfl rfl rfl ?_
        refine own_aload Y310 hx (pc' := 116) (hb hby at_114) rfl rfl rfl ?_
        have D312 : b1 ≠ b277_0 := (Nat.ne_of_lt (Nat.lt_of_lt_of_le F216.lt le_b277_0))
        refine own_acmp Y310 hx (pc' := 123) (same := false) (hb hby at_116) rfl rfl (decide_eq_false fun q => (Ne.symm D312) (Value.ref.inj q)) (by decide) (by decide) ?_
        refine own_iconst Y310 hx (pc' := 124) (x := (0 : Int32)) (hb hby at_123) rfl (by decide) ?_
        refine own_icmpNo Y310 hx (pc' := 127) (hb hby at_124) rfl (by decide) ?_
        refine own_aload Y310 hx (pc' := 129) (hb hby at_127) rfl rfl rfl ?_
        refine own_aload Y310 hx (pc' := 131) (hb hby at_129) rfl rfl rfl ?_
        have D314 : b10_1 ≠ b277_0 := (Nat.ne_of_lt (Nat.lt_of_lt_of_le F278.lt le_b277_0))
        refine own_virtual Y310 hx (pc' := 134) (W := 0) (cl' := 7) (sl' := 62) (as' := [(.ref b277_0)]) (S' := []) (a := b10_0) hZ hown (own_w hw 162 rfl) (own_w hw 163 rfl) (notFace_of_selects (args := #[]) (mvT hZ (own_w hw 165 rfl))) (own_w hw 165 rfl) (own_w hw 164 rfl) (own_w hw 3 rfl) (own_w hw 166 rfl) (by decide) F301 (rm20_39 l Z a0 hw [] b10_0 b277_0 b1 b10_1 h277 n0 (own_sz Y310) F302 (Ne.symm D312) F303 (Ne.symm D314) G277_11) (hb hby at_131) rfl (by rw [hml]; rfl) rfl (lenOf pd__Lcom_example_napkintree_napkintree_balancing_MultiwayTree_Node__I rfl) rfl (by decide) (by decide) rfl rfl (by decide) (by decide) own_Same.sz (own_fixS (S2 := [(.int (2 : Int32))]) rfl (fun T313 Y313 => ?_))
        refine own_iload Y313 hx (pc' := 136) (hb hby at_134) rfl rfl ?_
        refine own_icmpNo Y313 hx (pc' := 139) (hb hby at_136) rfl (by decide) ?_
        refine own_iconst Y313 hx (pc' := 140) (x := (1 : Int32)) (hb hby at_139) rfl (by decide) ?_
        refine own_goto Y313 hx (pc' := 144) (hb hby at_140) (by decide) (by decide) ?_
        refine own_istore Y313 hx (pc' := 146) (Ls' := #[.val (.int p0), .val (.int p1), .val (.int p2), .val (.int p3), .val (.int (2 : Int32)), .val (.int (p3 &&& (3 : Int32))), .val (.int (1 : Int32)), .val (.int (1 : Int32)), .val (.ref b1), .val (.ref b3), .val (.ref b10_0), .val (.ref b277_0), .val (.int (1 : Int32)), .unset]) (hb hby at_144) rfl rfl ?_
        refine own_aload Y313 hx (pc' := 148) (hb hby at_146) rfl rfl rfl ?_
        refine own_iload Y313 hx (pc' := 150) (hb hby at_148) rfl rfl ?_
        refine own_virtual Y313 hx (pc' := 153) (W := 0) (cl' := 7) (sl' := 62) (as' := [(.int (p3 &&& (3 : Int32)))]) (S' := []) (a := b1) hZ hown (own_w hw 161 rfl) (own_w hw 57 rfl) (notFace_of_selects (args := #[]) (mvT hZ (own_w hw 59 rfl))) (own_w hw 59 rfl) (own_w hw 58 rfl) (own_w hw 3 rfl) (own_w hw 60 rfl) (by decide) F295 (rm8_35 l Z a0 hw [] b1 (p3 &&& (3 : Int32)) h277 n0 (own_sz Y313) F296 F297 F298 F299) (hb hby at_150) rfl (by rw [hml]; rfl) rfl (lenOf pd__I_Lcom_example_napkintree_napkintree_balancing_MultiwayTree_Node_ rfl) rfl (by decide) (by decide) rfl rfl (by decide) (by decide) own_Same.sz (own_fixS (S2 := [.null]) rfl (fun T315 Y315 => ?_))
        refine own_ifnonnullNo Y315 hx (pc' := 156) (hb hby at_153) rfl ?_
        refine own_iconst Y315 hx (pc' := 157) (x := (1 : Int32)) (hb hby at_156) rfl (by decide) ?_
        refine own_goto Y315 hx (pc' := 161) (hb hby at_157) (by decide) (by decide) ?_
        refine own_istore Y315 hx (pc' := 163) (Ls' := #[.val (.int p0), .val (.int p1), .val (.int p2), .val (.int p3), .val (.int (2 : Int32)), .val (.int (p3 &&& (3 : Int32))), .val (.int (1 : Int32)), .val (.int (1 : Int32)), .val (.ref b1), .val (.ref b3), .val (.ref b10_0), .val (.ref b277_0), .val (.int (1 : Int32)), .val (.int (1 : Int32))]) (hb hby at_161) rfl rfl ?_
        refine own_iload Y315 hx (pc' := 165) (hb hby at_163) rfl rfl ?_
        refine own_ifNo Y315 hx (pc' := 168) (hb hby at_165) rfl (by decide) ?_
        refine own_iload Y315 hx (pc' := 170) (hb hby at_168) rfl rfl ?_
        refine own_ifNo Y315 hx (pc' := 173) (hb hby at_170) rfl (by decide) ?_
        refine own_iconst Y315 hx (pc' := 174) (x := (1 : Int32)) (hb hby at_173) rfl (by decide) ?_
        refine own_goto Y315 hx (pc' := 178) (hb hby at_174) (by decide) (by decide) ?_
        exact own_retN Y315 hx hlk Bd.returns rfl (by simp) (hb hby at_178) ⟨rfl, trivial⟩ (by decide) (by decide)
      ·
        rw [qL81]
        refine own_aload Y277 hx (pc' := 83) (hb hby at_81) rfl rfl rfl ?_
        refine own_iload Y277 hx (pc' := 85) (hb hby at_83) rfl rfl ?_
        refine own_virtual Y277 hx (pc' := 88) (W := 0) (cl' := 7) (sl' := 62) (as' := [(.int (3 : Int32))]) (S' := []) (a := b10_0) hZ hown (own_w hw 161 rfl) (own_w hw 57 rfl) (notFace_of_selects (args := #[]) (mvT hZ (own_w hw 59 rfl))) (own_w hw 59 rfl) (own_w hw 58 rfl) (own_w hw 3 rfl) (own_w hw 60 rfl) (by decide) F301 (rm8_40 l Z a0 hw [] b10_0 b203_0 h277 n0 (own_sz Y277) G277_10) (hb hby at_85) rfl (by rw [hml]; rfl) rfl (lenOf pd__I_Lcom_example_napkintree_napkintree_balancing_MultiwayTree_Node_ rfl) rfl (by decide) (by decide) rfl rfl (by decide) (by decide) own_Same.sz (own_fixS (S2 := [(.ref b203_0)]) rfl (fun T316 Y316 => ?_))
        refine own_astore Y316 hx (pc' := 90) (Ls' := #[.val (.int p0), .val (.int p1), .val (.int p2), .val (.int p3), .val (.int (3 : Int32)), .val (.int (p3 &&& (3 : Int32))), .val (.int (1 : Int32)), .val (.int (1 : Int32)), .val (.ref b1), .val (.ref b3), .val (.ref b10_0), .val (.ref b203_0), .unset, .unset]) (hb hby at_88) rfl rfl rfl ?_
        refine own_aload Y316 hx (pc' := 92) (hb hby at_90) rfl rfl rfl ?_
        refine own_ifnullNo Y316 hx (pc' := 95) (hb hby at_92) rfl ?_
        refine own_aload Y316 hx (pc' := 97) (hb hby at_95) rfl rfl rfl ?_
        refine own_aload Y316 hx (pc' := 99) (hb hby at_97) rfl rfl rfl ?_
        have D317 : b10_0 ≠ b203_0 := (Nat.ne_of_lt (Nat.lt_of_lt_of_le G10_8.lt le_b203_0))
        refine own_acmp Y316 hx (pc' := 102) (same := false) (hb hby at_99) rfl rfl (decide_eq_false fun q => (Ne.symm D317) (Value.ref.inj q)) (by decide) (by decide) ?_
        refine own_iload Y316 hx (pc' := 104) (hb hby at_102) rfl rfl ?_
        refine own_ifYes Y316 hx (pc' := 111) (hb hby at_104) (by decide) (by decide) (by decide) ?_
        refine own_iconst Y316 hx (pc' := 112) (x := (0 : Int32)) (hb hby at_111) rfl (by decide) ?_
        refine own_aload Y316 hx (pc' := 114) (hb hby at_112) rfl rfl rfl ?_
        refine own_aload Y316 hx (pc' := 116) (hb hby at_114) rfl rfl rfl ?_
        have D318 : b1 ≠ b203_0 := (Nat.ne_of_lt (Nat.lt_of_lt_of_le F42.lt le_b203_0))
        refine own_acmp Y316 hx (pc' := 123) (same := false) (hb hby at_116) rfl rfl (decide_eq_false fun q => (Ne.symm D318) (Value.ref.inj q)) (by decide) (by decide) ?_
        refine own_iconst Y316 hx (pc' := 124) (x := (0 : Int32)) (hb hby at_123) rfl (by decide) ?_
        refine own_icmpNo Y316 hx (pc' := 127) (hb hby at_124) rfl (by decide) ?_
        refine own_aload Y316 hx (pc' := 129) (hb hby at_127) rfl rfl rfl ?_
        refine own_aload Y316 hx (pc' := 131) (hb hby at_129) rfl rfl rfl ?_
        have D320 : b10_1 ≠ b203_0 := (Nat.ne_of_lt (Nat.lt_of_lt_of_le G10_20.lt le_b203_0))
        have D321 : b203_0 ≠ b277_0 := (Nat.ne_of_lt (Nat.lt_of_lt_of_le G203_14.lt le_b277_0))
        refine own_virtual Y316 hx (pc' := 134) (W := 0) (cl' := 7) (sl' := 62) (as' := [(.ref b203_0)]) (S' := []) (a := b10_0) hZ hown (own_w hw 162 rfl) (own_w hw 163 rfl) (notFace_of_selects (args := #[]) (mvT hZ (own_w hw 165 rfl))) (own_w hw 165 rfl) (own_w hw 164 rfl) (own_w hw 3 rfl) (own_w hw 166 rfl) (by decide) F301 (rm20_41 l Z a0 hw [] b10_0 b203_0 b1 b10_1 b277_0 h277 n0 (own_sz Y316) F302 (Ne.symm D318) F303 (Ne.symm D320) G277_11 D321) (hb hby at_131) rfl (by rw [hml]; rfl) rfl (lenOf pd__Lcom_example_napkintree_napkintree_balancing_MultiwayTree_Node__I rfl) rfl (by decide) (by decide) rfl rfl (by decide) (by decide) own_Same.sz (own_fixS (S2 := [(.int (3 : Int32))]) rfl (fun T319 Y319 => ?_))
        refine own_iload Y319 hx (pc' := 136) (hb hby at_134) rfl rfl ?_
        refine own_icmpNo Y319 hx (pc' := 139) (hb hby at_136) rfl (by decide) ?_
        refine own_iconst Y319 hx (pc' := 140) (x := (1 : Int32)) (hb hby at_139) rfl (by decide) ?_
        refine own_goto Y319 hx (pc' := 144) (hb hby at_140) (by decide) (by decide) ?_
        refine own_istore Y319 hx (pc' := 146) (Ls' := #[.val (.int p0), .val (.int p1), .val (.int p2), .val (.int p3), .val (.int (3 : Int32)), .val (.int (p3 &&& (3 : Int32))), .val (.int (1 : Int32)), .val (.int (1 : Int32)), .val (.ref b1), .val (.ref b3), .val (.ref b10_0), .val (.ref b203_0), .val (.int (1 : Int32)), .unset]) (hb hby at_144) rfl rfl ?_
        refine own_aload Y319 hx (pc' := 148) (hb hby at_146) rfl rfl rfl ?_
        refine own_iload Y319 hx (pc' := 150) (hb hby at_148) rfl rfl ?_
        refine own_virtual Y319 hx (pc' := 153) (W := 0) (cl' := 7) (sl' := 62) (as' := [(.int (p3 &&& (3 : Int32)))]) (S' := []) (a := b1) hZ hown (own_w hw 161 rfl) (own_w hw 57 rfl) (notFace_of_selects (args := #[]) (mvT hZ (own_w hw 59 rfl))) (own_w hw 59 rfl) (own_w hw 58 rfl) (own_w hw 3 rfl) (own_w hw 60 rfl) (by decide) F295 (rm8_35 l Z a0 hw [] b1 (p3 &&& (3 : Int32)) h277 n0 (own_sz Y319) F296 F297 F298 F299) (hb hby at_150) rfl (by rw [hml]; rfl) rfl (lenOf pd__I_Lcom_example_napkintree_napkintree_balancing_MultiwayTree_Node_ rfl) rfl (by decide) (by decide) rfl rfl (by decide) (by decide) own_Same.sz (own_fixS (S2 := [.null]) rfl (fun T322 Y322 => ?_))
        refine own_ifnonnullNo Y322 hx (pc' := 156) (hb hby at_153) rfl ?_
        refine own_iconst Y322 hx (pc' := 157) (x := (1 : Int32)) (hb hby at_156) rfl (by decide) ?_
        refine own_goto Y322 hx (pc' := 161) (hb hby at_157) (by decide) (by decide) ?_
        refine own_istore Y322 hx (pc' := 163) (Ls' := #[.val (.int p0), .val (.int p1), .val (.int p2), .val (.int p3), .val (.int (3 : Int32)), .val (.int (p3 &&& (3 : Int32))), .val (.int (1 : Int32)), .val (.int (1 : Int32)), .val (.ref b1), .val (.ref b3), .val (.ref b10_0), .val (.ref b203_0), .val (.int (1 : Int32)), .val (.int (1 : Int32))]) (hb hby at_161) rfl rfl ?_
        refine own_iload Y322 hx (pc' := 165) (hb hby at_163) rfl rfl ?_
        refine own_ifNo Y322 hx (pc' := 168) (hb hby at_165) rfl (by decide) ?_
        refine own_iload Y322 hx (pc' := 170) (hb hby at_168) rfl rfl ?_
        refine own_ifNo Y322 hx (pc' := 173) (hb hby at_170) rfl (by decide) ?_
        refine own_iconst Y322 hx (pc' := 174) (x := (1 : Int32)) (hb hby at_173) rfl (by decide) ?_
        refine own_goto Y322 hx (pc' := 178) (hb hby at_174) (by decide) (by decide) ?_
        exact own_retN Y322 hx hlk Bd.returns rfl (by simp) (hb hby at_178) ⟨rfl, trivial⟩ (by decide) (by decide)
    ·
      rw [qL72]
      refine own_aload Y203 hx (pc' := 74) (hb hby at_72) rfl rfl rfl ?_
      refine own_aload Y203 hx (pc' := 76) (hb hby at_74) rfl rfl rfl ?_
      refine own_iload Y203 hx (pc' := 78) (hb hby at_76) rfl rfl ?_
      have F324 := (own_St F204 K203 (own_allS (own_plain G10_20) (own_allS (own_plain G10_20) (own_allS (own_plain G10_20) (own_allS (own_plain G10_20) (own_allS (own_plain G10_20) (own_allS (own_plain G10_20) (own_allS (own_plain G10_8) (own_allS (own_plain G10_8) (own_allS (own_plain G10_8) (own_allS (own_plain G10_8) (own_allS (own_plain G10_8) (own_allS (own_plain G10_8) (own_allS (own_plain G10_20) (own_allS (own_plain G10_8) own_all0)))))))))))))))
      have D325 : b10_0 ≠ b203_0 := (Nat.ne_of_lt (Nat.lt_of_lt_of_le G10_8.lt le_b203_0))
      have F326 := (own_St F205 K203 (own_allS (own_plain G10_20) (own_allS (own_plain G10_20) (own_allS (own_plain G10_20) (own_allS (own_plain G10_20) (own_allS (own_plain G10_20) (own_allS (own_plain G10_20) (own_allS (own_plain G10_8) (own_allS (own_plain G10_8) (own_allS (own_plain G10_8) (own_allS (own_plain G10_8) (own_allS (own_plain G10_8) (own_allS (own_plain G10_8) (own_allS (own_plain G10_20) (own_allS (own_plain G10_8) own_all0)))))))))))))))
      have D327 : b3 ≠ b10_1 := (Nat.ne_of_lt (Nat.lt_of_lt_of_le F11.lt le_b10_1))
      have D328 : b3 ≠ b10_0 := (Nat.ne_of_lt (Nat.lt_of_lt_of_le F11.lt le_b10_0))
      have F329 := (own_F (v := (.int (0 : Int32))) F206 K203 (own_nl D327 (own_nl D327 (own_nl D327 (own_nl D327 (own_nl D327 (own_nl D327 (own_nl D328 (own_nl D328 (own_nl D328 (own_nl D328 (own_nl D328 (own_nl D328 (own_nl D327 (own_nl D328 own_nin0)))))))))))))))
      have F330 := (own_St F207 K203 (own_allS (own_plain G10_20) (own_allS (own_plain G10_20) (own_allS (own_plain G10_20) (own_allS (own_plain G10_20) (own_allS (own_plain G10_20) (own_allS (own_plain G10_20) (own_allS (own_plain G10_8) (own_allS (own_plain G10_8) (own_allS (own_plain G10_8) (own_allS (own_plain G10_8) (own_allS (own_plain G10_8) (own_allS (own_plain G10_8) (own_allS (own_plain G10_20) (own_allS (own_plain G10_8) own_all0)))))))))))))))
      have F331 := (own_E F208 K203)
      have D332 : w_SPLIT ≠ b10_1 := (Nat.ne_of_lt (Nat.lt_of_lt_of_le F24.lt le_b10_1))
      have D333 : w_SPLIT ≠ b10_0 := (Nat.ne_of_lt (Nat.lt_of_lt_of_le F24.lt le_b10_0))
      have F334 := (own_F (v := (.int (1 : Int32))) F210 K203 (own_nl D332 (own_nl D332 (own_nl D332 (own_nl D332 (own_nl D332 (own_nl D332 (own_nl D333 (own_nl D333 (own_nl D333 (own_nl D333 (own_nl D333 (own_nl D333 (own_nl D332 (own_nl D333 own_nin0)))))))))))))))
      have F335 := (own_St F211 K203 (own_allS (own_plain G10_20) (own_allS (own_plain G10_20) (own_allS (own_plain G10_20) (own_allS (own_plain G10_20) (own_allS (own_plain G10_20) (own_allS (own_plain G10_20) (own_allS (own_plain G10_8) (own_allS (own_plain G10_8) (own_allS (own_plain G10_8) (own_allS (own_plain G10_8) (own_allS (own_plain G10_8) (own_allS (own_plain G10_8) (own_allS (own_plain G10_20) (own_allS (own_plain G10_8) own_all0)))))))))))))))
      have F336 := (own_E F212 K203)
      have D337 : w_ABSORBED ≠ b10_1 := (Nat.ne_of_lt (Nat.lt_of_lt_of_le F30.lt le_b10_1))
      have D338 : w_ABSORBED ≠ b10_0 := (Nat.ne_of_lt (Nat.lt_of_lt_of_le F30.lt le_b10_0))
      have F339 := (own_F (v := (.int (0 : Int32))) F214 K203 (own_nl D337 (own_nl D337 (own_nl D337 (own_nl D337 (own_nl D337 (own_nl D337 (own_nl D338 (own_nl D338 (own_nl D338 (own_nl D338 (own_nl D338 (own_nl D338 (own_nl D337 (own_nl D338 own_nin0)))))))))))))))
      refine own_virtualUp Y203 hx (pc' := 81) (W := 0) (cl' := 7) (sl' := 62) (as' := [(.ref b10_0), (.int (2 : Int32))]) (S' := []) (a := b3) hZ hown (own_w hw 158 rfl) (own_w hw 159 rfl) (own_w hw 52 rfl) (own_w hw 160 rfl) (own_w hw 53 rfl) (own_w hw 19 rfl) (own_w hw 55 rfl) (by decide) F223 (rm7_49 l Z a0 hw [] b3 b10_0 b203_0 w_NULL_KEY b1 w_SPLIT w_ABSORBED h203 n0 (own_sz Y203) F224 G203_11 G203_16 G203_18 G203_14 G203_20 G203_21 (Nat.le_trans Z0 sz_b203_0) G203_23 F324 G203_24 G203_6 D325 (Nat.le_trans Z0 sz_b10_0) G203_7 F225 G203_10 F326 F223 F329 F330 F331 F334 G203_25 F335 F336 F339 G203_13) (hb hby at_78) rfl (by rw [hml]; rfl) rfl (lenOf pd__Lcom_example_napkintree_napkintree_balancing_MultiwayTree_Node_I_V rfl) rfl (by decide) (by decide) rfl rfl (by decide) (by decide) P7_49_sz (own_fixR (S2 := []) rfl (fun T323 h323 Y323 R323 => ?_))
      obtain ⟨b323_0, K323, le_b323_0, G323_0, G323_1, G323_2, G323_3, G323_4, G323_5, G323_6, G323_7, G323_8, G323_9, G323_10, G323_11, G323_12, G323_13, G323_14, G323_15, G323_16, G323_17, G323_18, G323_19, G323_20, G323_21, G323_22⟩ := R323
      have KC340 : own_Kp h0 h203 [] := (KC215.trans K203 (own_allS (Or.inr sz_b10_1) (own_allS (Or.inr sz_b10_1) (own_allS (Or.inr sz_b10_1) (own_allS (Or.inr sz_b10_1) (own_allS (Or.inr sz_b10_1) (own_allS (Or.inr sz_b10_1) (own_allS (Or.inr sz_b10_0) (own_allS (Or.inr sz_b10_0) (own_allS (Or.inr sz_b10_0) (own_allS (Or.inr sz_b10_0) (own_allS (Or.inr sz_b10_0) (own_allS (Or.inr sz_b10_0) (own_allS (Or.inr sz_b10_1) (own_allS (Or.inr sz_b10_0) own_all0)))))))))))))))
      have sz_b323_0 : Array.size h0 ≤ b323_0 := Nat.le_trans KC340.1 le_b323_0
      have F341 := (own_E F216 K323)
      have D342 : b1 ≠ b203_0 := (Nat.ne_of_lt (Nat.lt_of_lt_of_le F42.lt le_b203_0))
      have F343 := (own_F (v := .null) F219 K323 (own_nl D342 (own_nl D342 (own_nl D342 (own_nl D342 (own_nl D342 (own_nl D342 (own_nl D218 (own_nl D218 (own_nl D218 (own_nl D342 (own_nl D218 own_nin0))))))))))))
      have F344 := (own_F (v := .null) F220 K323 (own_nl D342 (own_nl D342 (own_nl D342 (own_nl D342 (own_nl D342 (own_nl D342 (own_nl D218 (own_nl D218 (own_nl D218 (own_nl D342 (own_nl D218 own_nin0))))))))))))
      have F345 := (own_F (v := .null) F221 K323 (own_nl D342 (own_nl D342 (own_nl D342 (own_nl D342 (own_nl D342 (own_nl D342 (own_nl D218 (own_nl D218 (own_nl D218 (own_nl D342 (own_nl D218 own_nin0))))))))))))
      have F346 := (own_F (v := .null) F222 K323 (own_nl D342 (own_nl D342 (own_nl D342 (own_nl D342 (own_nl D342 (own_nl D342 (own_nl D218 (own_nl D218 (own_nl D218 (own_nl D342 (own_nl D218 own_nin0))))))))))))
      have F347 := (own_E F223 K323)
      have F348 := (own_E F224 K323)
      have F349 := (own_F (v := (.ref b1)) F225 K323 (own_nl D325 (own_nl D325 (own_nl D325 (own_nl D325 (own_nl D325 (own_nl D325 (own_nr (sl_54 hw) (own_nr (sl_55 hw) (own_nr (sl_115 hw) (own_nl D325 (own_nr (sl_114 hw) own_nin0))))))))))))
      have F350 := (own_F (v := (.ref b10_1)) F226 K323 (own_nl D325 (own_nl D325 (own_nl D325 (own_nl D325 (own_nl D325 (own_nl D325 (own_nr (sl_72 hw) (own_nr (sl_73 hw) (own_nr (sl_76 hw) (own_nl D325 (own_nr (sl_112 hw) own_nin0))))))))))))
      have F351 := (own_F (v := (.ref b203_0)) G203_11 K323 (own_nl D325 (own_nl D325 (own_nl D325 (own_nl D325 (own_nl D325 (own_nl D325 (own_nr (sl_59 hw) (own_nr (sl_60 hw) (own_nr (sl_77 hw) (own_nl D325 (own_nr (sl_104 hw) own_nin0))))))))))))
      rcases own_mask4 p0 with qL81 | qL81 | qL81 | qL81
      ·
        rw [qL81]
        refine own_aload Y323 hx (pc' := 83) (hb hby at_81) rfl rfl rfl ?_
        refine own_iload Y323 hx (pc' := 85) (hb hby at_83) rfl rfl ?_
        refine own_virtual Y323 hx (pc' := 88) (W := 0) (cl' := 7) (sl' := 62) (as' := [(.int (0 : Int32))]) (S' := []) (a := b10_0) hZ hown (own_w hw 161 rfl) (own_w hw 57 rfl) (notFace_of_selects (args := #[]) (mvT hZ (own_w hw 59 rfl))) (own_w hw 59 rfl) (own_w hw 58 rfl) (own_w hw 3 rfl) (own_w hw 60 rfl) (by decide) F348 (rm8_5 l Z a0 hw [] b10_0 b1 h323 n0 (own_sz Y323) F349) (hb hby at_85) rfl (by rw [hml]; rfl) rfl (lenOf pd__I_Lcom_example_napkintree_napkintree_balancing_MultiwayTree_Node_ rfl) rfl (by decide) (by decide) rfl rfl (by decide) (by decide) own_Same.sz (own_fixS (S2 := [(.ref b1)]) rfl (fun T352 Y352 => ?_))
        refine own_astore Y352 hx (pc' := 90) (Ls' := #[.val (.int p0), .val (.int p1), .val (.int p2), .val (.int p3), .val (.int (0 : Int32)), .val (.int (p3 &&& (3 : Int32))), .val (.int (1 : Int32)), .val (.int (2 : Int32)), .val (.ref b1), .val (.ref b3), .val (.ref b10_0), .val (.ref b1), .unset, .unset]) (hb hby at_88) rfl rfl rfl ?_
        refine own_aload Y352 hx (pc' := 92) (hb hby at_90) rfl rfl rfl ?_
        refine own_ifnullNo Y352 hx (pc' := 95) (hb hby at_92) rfl ?_
        refine own_aload Y352 hx (pc' := 97) (hb hby at_95) rfl rfl rfl ?_
        refine own_aload Y352 hx (pc' := 99) (hb hby at_97) rfl rfl rfl ?_
        refine own_acmp Y352 hx (pc' := 102) (same := false) (hb hby at_99) rfl rfl (decide_eq_false fun q => D218 (Value.ref.inj q)) (by decide) (by decide) ?_
        refine own_iload Y352 hx (pc' := 104) (hb hby at_102) rfl rfl ?_
        refine own_ifNo Y352 hx (pc' := 107) (hb hby at_104) rfl (by decide) ?_
        refine own_iconst Y352 hx (pc' := 108) (x := (1 : Int32)) (hb hby at_107) rfl (by decide) ?_
        refine own_goto Y352 hx (pc' := 112) (hb hby at_108) (by decide) (by decide) ?_
        refine own_aload Y352 hx (pc' := 114) (hb hby at_112) rfl rfl rfl ?_
        refine own_aload Y352 hx (pc' := 116) (hb hby at_114) rfl rfl rfl ?_
        refine own_acmp Y352 hx (pc' := 119) (same := true) (hb hby at_116) rfl rfl (decide_eq_true rfl) (by decide) (by decide) ?_
        refine own_iconst Y352 hx (pc' := 120) (x := (1 : Int32)) (hb hby at_119) rfl (by decide) ?_
        refine own_goto Y352 hx (pc' := 124) (hb hby at_120) (by decide) (by decide) ?_
        refine own_icmpNo Y352 hx (pc' := 127) (hb hby at_124) rfl (by decide) ?_
        refine own_aload Y352 hx (pc' := 129) (hb hby at_127) rfl rfl rfl ?_
        refine own_aload Y352 hx (pc' := 131) (hb hby at_129) rfl rfl rfl ?_
        refine own_virtual Y352 hx (pc' := 134) (W := 0) (cl' := 7) (sl' := 62) (as' := [(.ref b1)]) (S' := []) (a := b10_0) hZ hown (own_w hw 162 rfl) (own_w hw 163 rfl) (notFace_of_selects (args := #[]) (mvT hZ (own_w hw 165 rfl))) (own_w hw 165 rfl) (own_w hw 164 rfl) (own_w hw 3 rfl) (own_w hw 166 rfl) (by decide) F348 (rm20_34 l Z a0 hw [] b10_0 b1 h323 n0 (own_sz Y352) F349) (hb hby at_131) rfl (by rw [hml]; rfl) rfl (lenOf pd__Lcom_example_napkintree_napkintree_balancing_MultiwayTree_Node__I rfl) rfl (by decide) (by decide) rfl rfl (by decide) (by decide) own_Same.sz (own_fixS (S2 := [(.int (0 : Int32))]) rfl (fun T353 Y353 => ?_))
        refine own_iload Y353 hx (pc' := 136) (hb hby at_134) rfl rfl ?_
        refine own_icmpNo Y353 hx (pc' := 139) (hb hby at_136) rfl (by decide) ?_
        refine own_iconst Y353 hx (pc' := 140) (x := (1 : Int32)) (hb hby at_139) rfl (by decide) ?_
        refine own_goto Y353 hx (pc' := 144) (hb hby at_140) (by decide) (by decide) ?_
        refine own_istore Y353 hx (pc' := 146) (Ls' := #[.val (.int p0), .val (.int p1), .val (.int p2), .val (.int p3), .val (.int (0 : Int32)), .val (.int (p3 &&& (3 : Int32))), .val (.int (1 : Int32)), .val (.int (2 : Int32)), .val (.ref b1), .val (.ref b3), .val (.ref b10_0), .val (.ref b1), .val (.int (1 : Int32)), .unset]) (hb hby at_144) rfl rfl ?_
        refine own_aload Y353 hx (pc' := 148) (hb hby at_146) rfl rfl rfl ?_
        refine own_iload Y353 hx (pc' := 150) (hb hby at_148) rfl rfl ?_
        refine own_virtual Y353 hx (pc' := 153) (W := 0) (cl' := 7) (sl' := 62) (as' := [(.int (p3 &&& (3 : Int32)))]) (S' := []) (a := b1) hZ hown (own_w hw 161 rfl) (own_w hw 57 rfl) (notFace_of_selects (args := #[]) (mvT hZ (own_w hw 59 rfl))) (own_w hw 59 rfl) (own_w hw 58 rfl) (own_w hw 3 rfl) (own_w hw 60 rfl) (by decide) F341 (rm8_35 l Z a0 hw [] b1 (p3 &&& (3 : Int32)) h323 n0 (own_sz Y353) F343 F344 F345 F346) (hb hby at_150) rfl (by rw [hml]; rfl) rfl (lenOf pd__I_Lcom_example_napkintree_napkintree_balancing_MultiwayTree_Node_ rfl) rfl (by decide) (by decide) rfl rfl (by decide) (by decide) own_Same.sz (own_fixS (S2 := [.null]) rfl (fun T354 Y354 => ?_))
        refine own_ifnonnullNo Y354 hx (pc' := 156) (hb hby at_153) rfl ?_
        refine own_iconst Y354 hx (pc' := 157) (x := (1 : Int32)) (hb hby at_156) rfl (by decide) ?_
        refine own_goto Y354 hx (pc' := 161) (hb hby at_157) (by decide) (by decide) ?_
        refine own_istore Y354 hx (pc' := 163) (Ls' := #[.val (.int p0), .val (.int p1), .val (.int p2), .val (.int p3), .val (.int (0 : Int32)), .val (.int (p3 &&& (3 : Int32))), .val (.int (1 : Int32)), .val (.int (2 : Int32)), .val (.ref b1), .val (.ref b3), .val (.ref b10_0), .val (.ref b1), .val (.int (1 : Int32)), .val (.int (1 : Int32))]) (hb hby at_161) rfl rfl ?_
        refine own_iload Y354 hx (pc' := 165) (hb hby at_163) rfl rfl ?_
        refine own_ifNo Y354 hx (pc' := 168) (hb hby at_165) rfl (by decide) ?_
        refine own_iload Y354 hx (pc' := 170) (hb hby at_168) rfl rfl ?_
        refine own_ifNo Y354 hx (pc' := 173) (hb hby at_170) rfl (by decide) ?_
        refine own_iconst Y354 hx (pc' := 174) (x := (1 : Int32)) (hb hby at_173) rfl (by decide) ?_
        refine own_goto Y354 hx (pc' := 178) (hb hby at_174) (by decide) (by decide) ?_
        exact own_retN Y354 hx hlk Bd.returns rfl (by simp) (hb hby at_178) ⟨rfl, trivial⟩ (by decide) (by decide)
      ·
        rw [qL81]
        refine own_aload Y323 hx (pc' := 83) (hb hby at_81) rfl rfl rfl ?_
        refine own_iload Y323 hx (pc' := 85) (hb hby at_83) rfl rfl ?_
        refine own_virtual Y323 hx (pc' := 88) (W := 0) (cl' := 7) (sl' := 62) (as' := [(.int (1 : Int32))]) (S' := []) (a := b10_0) hZ hown (own_w hw 161 rfl) (own_w hw 57 rfl) (notFace_of_selects (args := #[]) (mvT hZ (own_w hw 59 rfl))) (own_w hw 59 rfl) (own_w hw 58 rfl) (own_w hw 3 rfl) (own_w hw 60 rfl) (by decide) F348 (rm8_36 l Z a0 hw [] b10_0 b10_1 h323 n0 (own_sz Y323) F350) (hb hby at_85) rfl (by rw [hml]; rfl) rfl (lenOf pd__I_Lcom_example_napkintree_napkintree_balancing_MultiwayTree_Node_ rfl) rfl (by decide) (by decide) rfl rfl (by decide) (by decide) own_Same.sz (own_fixS (S2 := [(.ref b10_1)]) rfl (fun T355 Y355 => ?_))
        refine own_astore Y355 hx (pc' := 90) (Ls' := #[.val (.int p0), .val (.int p1), .val (.int p2), .val (.int p3), .val (.int (1 : Int32)), .val (.int (p3 &&& (3 : Int32))), .val (.int (1 : Int32)), .val (.int (2 : Int32)), .val (.ref b1), .val (.ref b3), .val (.ref b10_0), .val (.ref b10_1), .unset, .unset]) (hb hby at_88) rfl rfl rfl ?_
        refine own_aload Y355 hx (pc' := 92) (hb hby at_90) rfl rfl rfl ?_
        refine own_ifnullNo Y355 hx (pc' := 95) (hb hby at_92) rfl ?_
        refine own_aload Y355 hx (pc' := 97) (hb hby at_95) rfl rfl rfl ?_
        refine own_aload Y355 hx (pc' := 99) (hb hby at_97) rfl rfl rfl ?_
        refine own_acmp Y355 hx (pc' := 102) (same := false) (hb hby at_99) rfl rfl (decide_eq_false fun q => (Ne.symm G10_32) (Value.ref.inj q)) (by decide) (by decide) ?_
        refine own_iload Y355 hx (pc' := 104) (hb hby at_102) rfl rfl ?_
        refine own_ifYes Y355 hx (pc' := 111) (hb hby at_104) (by decide) (by decide) (by decide) ?_
        refine own_iconst Y355 hx (pc' := 112) (x := (0 : Int32)) (hb hby at_111) rfl (by decide) ?_
        refine own_aload Y355 hx (pc' := 114) (hb hby at_112) rfl rfl rfl ?_
        refine own_aload Y355 hx (pc' := 116) (hb hby at_114) rfl rfl rfl ?_
        refine own_acmp Y355 hx (pc' := 123) (same := false) (hb hby at_116) rfl rfl (decide_eq_false fun q => (Ne.symm D217) (Value.ref.inj q)) (by decide) (by decide) ?_
        refine own_iconst Y355 hx (pc' := 124) (x := (0 : Int32)) (hb hby at_123) rfl (by decide) ?_
        refine own_icmpNo Y355 hx (pc' := 127) (hb hby at_124) rfl (by decide) ?_
        refine own_aload Y355 hx (pc' := 129) (hb hby at_127) rfl rfl rfl ?_
        refine own_aload Y355 hx (pc' := 131) (hb hby at_129) rfl rfl rfl ?_
        refine own_virtual Y355 hx (pc' := 134) (W := 0) (cl' := 7) (sl' := 62) (as' := [(.ref b10_1)]) (S' := []) (a := b10_0) hZ hown (own_w hw 162 rfl) (own_w hw 163 rfl) (notFace_of_selects (args := #[]) (mvT hZ (own_w hw 165 rfl))) (own_w hw 165 rfl) (own_w hw 164 rfl) (own_w hw 3 rfl) (own_w hw 166 rfl) (by decide) F348 (rm20_37 l Z a0 hw [] b10_0 b10_1 b1 h323 n0 (own_sz Y355) F349 (Ne.symm D217) F350) (hb hby at_131) rfl (by rw [hml]; rfl) rfl (lenOf pd__Lcom_example_napkintree_napkintree_balancing_MultiwayTree_Node__I rfl) rfl (by decide) (by decide) rfl rfl (by decide) (by decide) own_Same.sz (own_fixS (S2 := [(.int (1 : Int32))]) rfl (fun T356 Y356 => ?_))
        refine own_iload Y356 hx (pc' := 136) (hb hby at_134) rfl rfl ?_
        refine own_icmpNo Y356 hx (pc' := 139) (hb hby at_136) rfl (by decide) ?_
        refine own_iconst Y356 hx (pc' := 140) (x := (1 : Int32)) (hb hby at_139) rfl (by decide) ?_
        refine own_goto Y356 hx (pc' := 144) (hb hby at_140) (by decide) (by decide) ?_
        refine own_istore Y356 hx (pc' := 146) (Ls' := #[.val (.int p0), .val (.int p1), .val (.int p2), .val (.int p3), .val (.int (1 : Int32)), .val (.int (p3 &&& (3 : Int32))), .val (.int (1 : Int32)), .val (.int (2 : Int32)), .val (.ref b1), .val (.ref b3), .val (.ref b10_0), .val (.ref b10_1), .val (.int (1 : Int32)), .unset]) (hb hby at_144) rfl rfl ?_
        refine own_aload Y356 hx (pc' := 148) (hb hby at_146) rfl rfl rfl ?_
        refine own_iload Y356 hx (pc' := 150) (hb hby at_148) rfl rfl ?_
        refine own_virtual Y356 hx (pc' := 153) (W := 0) (cl' := 7) (sl' := 62) (as' := [(.int (p3 &&& (3 : Int32)))]) (S' := []) (a := b1) hZ hown (own_w hw 161 rfl) (own_w hw 57 rfl) (notFace_of_selects (args := #[]) (mvT hZ (own_w hw 59 rfl))) (own_w hw 59 rfl) (own_w hw 58 rfl) (own_w hw 3 rfl) (own_w hw 60 rfl) (by decide) F341 (rm8_35 l Z a0 hw [] b1 (p3 &&& (3 : Int32)) h323 n0 (own_sz Y356) F343 F344 F345 F346) (hb hby at_150) rfl (by rw [hml]; rfl) rfl (lenOf pd__I_Lcom_example_napkintree_napkintree_balancing_MultiwayTree_Node_ rfl) rfl (by decide) (by decide) rfl rfl (by decide) (by decide) own_Same.sz (own_fixS (S2 := [.null]) rfl (fun T357 Y357 => ?_))
        refine own_ifnonnullNo Y357 hx (pc' := 156) (hb hby at_153) rfl ?_
        refine own_iconst Y357 hx (pc' := 157) (x := (1 : Int32)) (hb hby at_156) rfl (by decide) ?_
        refine own_goto Y357 hx (pc' := 161) (hb hby at_157) (by decide) (by decide) ?_
        refine own_istore Y357 hx (pc' := 163) (Ls' := #[.val (.int p0), .val (.int p1), .val (.int p2), .val (.int p3), .val (.int (1 : Int32)), .val (.int (p3 &&& (3 : Int32))), .val (.int (1 : Int32)), .val (.int (2 : Int32)), .val (.ref b1), .val (.ref b3), .val (.ref b10_0), .val (.ref b10_1), .val (.int (1 : Int32)), .val (.int (1 : Int32))]) (hb hby at_161) rfl rfl ?_
        refine own_iload Y357 hx (pc' := 165) (hb hby at_163) rfl rfl ?_
        refine own_ifNo Y357 hx (pc' := 168) (hb hby at_165) rfl (by decide) ?_
        refine own_iload Y357 hx (pc' := 170) (hb hby at_168) rfl rfl ?_
        refine own_ifNo Y357 hx (pc' := 173) (hb hby at_170) rfl (by decide) ?_
        refine own_iconst Y357 hx (pc' := 174) (x := (1 : Int32)) (hb hby at_173) rfl (by decide) ?_
        refine own_goto Y357 hx (pc' := 178) (hb hby at_174) (by decide) (by decide) ?_
        exact own_retN Y357 hx hlk Bd.returns rfl (by simp) (hb hby at_178) ⟨rfl, trivial⟩ (by decide) (by decide)
      ·
        rw [qL81]
        refine own_aload Y323 hx (pc' := 83) (hb hby at_81) rfl rfl rfl ?_
        refine own_iload Y323 hx (pc' := 85) (hb hby at_83) rfl rfl ?_
        refine own_virtual Y323 hx (pc' := 88) (W := 0) (cl' := 7) (sl' := 62) (as' := [(.int (2 : Int32))]) (S' := []) (a := b10_0) hZ hown (own_w hw 161 rfl) (own_w hw 57 rfl) (notFace_of_selects (args := #[]) (mvT hZ (own_w hw 59 rfl))) (own_w hw 59 rfl) (own_w hw 58 rfl) (own_w hw 3 rfl) (own_w hw 60 rfl) (by decide) F348 (rm8_38 l Z a0 hw [] b10_0 b203_0 h323 n0 (own_sz Y323) F351) (hb hby at_85) rfl (by rw [hml]; rfl) rfl (lenOf pd__I_Lcom_example_napkintree_napkintree_balancing_MultiwayTree_Node_ rfl) rfl (by decide) (by decide) rfl rfl (by decide) (by decide) own_Same.sz (own_fixS (S2 := [(.ref b203_0)]) rfl (fun T358 Y358 => ?_))
        refine own_astore Y358 hx (pc' := 90) (Ls' := #[.val (.int p0), .val (.int p1), .val (.int p2), .val (.int p3), .val (.int (2 : Int32)), .val (.int (p3 &&& (3 : Int32))), .val (.int (1 : Int32)), .val (.int (2 : Int32)), .val (.ref b1), .val (.ref b3), .val (.ref b10_0), .val (.ref b203_0), .unset, .unset]) (hb hby at_88) rfl rfl rfl ?_
        refine own_aload Y358 hx (pc' := 92) (hb hby at_90) rfl rfl rfl ?_
        refine own_ifnullNo Y358 hx (pc' := 95) (hb hby at_92) rfl ?_
        refine own_aload Y358 hx (pc' := 97) (hb hby at_95) rfl rfl rfl ?_
        refine own_aload Y358 hx (pc' := 99) (hb hby at_97) rfl rfl rfl ?_
        refine own_acmp Y358 hx (pc' := 102) (same := false) (hb hby at_99) rfl rfl (decide_eq_false fun q => (Ne.symm D325) (Value.ref.inj q)) (by decide) (by decide) ?_
        refine own_iload Y358 hx (pc' := 104) (hb hby at_102) rfl rfl ?_
        refine own_ifYes Y358 hx (pc' := 111) (hb hby at_104) (by decide) (by decide) (by decide) ?_
        refine own_iconst Y358 hx (pc' := 112) (x := (0 : Int32)) (hb hby at_111) rfl (by decide) ?_
        refine own_aload Y358 hx (pc' := 114) (hb hby at_112) rfl rfl rfl ?_
        refine own_aload Y358 hx (pc' := 116) (hb hby at_114) rfl rfl rfl ?_
        refine own_acmp Y358 hx (pc' := 123) (same := false) (hb hby at_116) rfl rfl (decide_eq_false fun q => (Ne.symm D342) (Value.ref.inj q)) (by decide) (by decide) ?_
        refine own_iconst Y358 hx (pc' := 124) (x := (0 : Int32)) (hb hby at_123) rfl (by decide) ?_
        refine own_icmpNo Y358 hx (pc' := 127) (hb hby at_124) rfl (by decide) ?_
        refine own_aload Y358 hx (pc' := 129) (hb hby at_127) rfl rfl rfl ?_
        refine own_aload Y358 hx (pc' := 131) (hb hby at_129) rfl rfl rfl ?_
        have D360 : b10_1 ≠ b203_0 := (Nat.ne_of_lt (Nat.lt_of_lt_of_le G10_20.lt le_b203_0))
        refine own_virtual Y358 hx (pc' := 134) (W := 0) (cl' := 7) (sl' := 62) (as' := [(.ref b203_0)]) (S' := []) (a := b10_0) hZ hown (own_w hw 162 rfl) (own_w hw 163 rfl) (notFace_of_selects (args := #[]) (mvT hZ (own_w hw 165 rfl))) (own_w hw 165 rfl) (own_w hw 164 rfl) (own_w hw 3 rfl) (own_w hw 166 rfl) (by decide) F348 (rm20_39 l Z a0 hw [] b10_0 b203_0 b1 b10_1 h323 n0 (own_sz Y358) F349 (Ne.symm D342) F350 (Ne.symm D360) F351) (hb hby at_131) rfl (by rw [hml]; rfl) rfl (lenOf pd__Lcom_example_napkintree_napkintree_balancing_MultiwayTree_Node__I rfl) rfl (by decide) (by decide) rfl rfl (by decide) (by decide) own_Same.sz (own_fixS (S2 := [(.int (2 : Int32))]) rfl (fun T359 Y359 => ?_))
        refine own_iload Y359 hx (pc' := 136) (hb hby at_134) rfl rfl ?_
        refine own_icmpNo Y359 hx (pc' := 139) (hb hby at_136) rfl (by decide) ?_
        refine own_iconst Y359 hx (pc' := 140) (x := (1 : Int32)) (hb hby at_139) rfl (by decide) ?_
        refine own_goto Y359 hx (pc' := 144) (hb hby at_140) (by decide) (by decide) ?_
        refine own_istore Y359 hx (pc' := 146) (Ls' := #[.val (.int p0), .val (.int p1), .val (.int p2), .val (.int p3), .val (.int (2 : Int32)), .val (.int (p3 &&& (3 : Int32))), .val (.int (1 : Int32)), .val (.int (2 : Int32)), .val (.ref b1), .val (.ref b3), .val (.ref b10_0), .val (.ref b203_0), .val (.int (1 : Int32)), .unset]) (hb hby at_144) rfl rfl ?_
        refine own_aload Y359 hx (pc' := 148) (hb hby at_146) rfl rfl rfl ?_
        refine own_iload Y359 hx (pc' := 150) (hb hby at_148) rfl rfl ?_
        refine own_virtual Y359 hx (pc' := 153) (W := 0) (cl' := 7) (sl' := 62) (as' := [(.int (p3 &&& (3 : Int32)))]) (S' := []) (a := b1) hZ hown (own_w hw 161 rfl) (own_w hw 57 rfl) (notFace_of_selects (args := #[]) (mvT hZ (own_w hw 59 rfl))) (own_w hw 59 rfl) (own_w hw 58 rfl) (own_w hw 3 rfl) (own_w hw 60 rfl) (by decide) F341 (rm8_35 l Z a0 hw [] b1 (p3 &&& (3 : Int32)) h323 n0 (own_sz Y359) F343 F344 F345 F346) (hb hby at_150) rfl (by rw [hml]; rfl) rfl (lenOf pd__I_Lcom_example_napkintree_napkintree_balancing_MultiwayTree_Node_ rfl) rfl (by decide) (by decide) rfl rfl (by decide) (by decide) own_Same.sz (own_fixS (S2 := [.null]) rfl (fun T361 Y361 => ?_))
        refine own_ifnonnullNo Y361 hx (pc' := 156) (hb hby at_153) rfl ?_
        refine own_iconst Y361 hx (pc' := 157) (x := (1 : Int32)) (hb hby at_156) rfl (by decide) ?_
        refine own_goto Y361 hx (pc' := 161) (hb hby at_157) (by decide) (by decide) ?_
        refine own_istore Y361 hx (pc' := 163) (Ls' := #[.val (.int p0), .val (.int p1), .val (.int p2), .val (.int p3), .val (.int (2 : Int32)), .val (.int (p3 &&& (3 : Int32))), .val (.int (1 : Int32)), .val (.int (2 : Int32)), .val (.ref b1), .val (.ref b3), .val (.ref b10_0), .val (.ref b203_0), .val (.int (1 : Int32)), .val (.int (1 : Int32))]) (hb hby at_161) rfl rfl ?_
        refine own_iload Y361 hx (pc' := 165) (hb hby at_163) rfl rfl ?_
        refine own_ifNo Y361 hx (pc' := 168) (hb hby at_165) rfl (by decide) ?_
        refine own_iload Y361 hx (pc' := 170) (hb hby at_168) rfl rfl ?_
        refine own_ifNo Y361 hx (pc' := 173) (hb hby at_170) rfl (by decide) ?_
        refine own_iconst Y361 hx (pc' := 174) (x := (1 : Int32)) (hb hby at_173) rfl (by decide) ?_
        refine own_goto Y361 hx (pc' := 178) (hb hby at_174) (by decide) (by decide) ?_
        exact own_retN Y361 hx hlk Bd.returns rfl (by simp) (hb hby at_178) ⟨rfl, trivial⟩ (by decide) (by decide)
      ·
        rw [qL81]
        refine own_aload Y323 hx (pc' := 83) (hb hby at_81) rfl rfl rfl ?_
        refine own_iload Y323 hx (pc' := 85) (hb hby at_83) rfl rfl ?_
        refine own_virtual Y323 hx (pc' := 88) (W := 0) (cl' := 7) (sl' := 62) (as' := [(.int (3 : Int32))]) (S' := []) (a := b10_0) hZ hown (own_w hw 161 rfl) (own_w hw 57 rfl) (notFace_of_selects (args := #[]) (mvT hZ (own_w hw 59 rfl))) (own_w hw 59 rfl) (own_w hw 58 rfl) (own_w hw 3 rfl) (own_w hw 60 rfl) (by decide) F348 (rm8_40 l Z a0 hw [] b10_0 b323_0 h323 n0 (own_sz Y323) G323_8) (hb hby at_85) rfl (by rw [hml]; rfl) rfl (lenOf pd__I_Lcom_example_napkintree_napkintree_balancing_MultiwayTree_Node_ rfl) rfl (by decide) (by decide) rfl rfl (by decide) (by decide) own_Same.sz (own_fixS (S2 := [(.ref b323_0)]) rfl (fun T362 Y362 => ?_))
        refine own_astore Y362 hx (pc' := 90) (Ls' := #[.val (.int p0), .val (.int p1), .val (.int p2), .val (.int p3), .val (.int (3 : Int32)), .val (.int (p3 &&& (3 : Int32))), .val (.int (1 : Int32)), .val (.int (2 : Int32)), .val (.ref b1), .val (.ref b3), .val (.ref b10_0), .val (.ref b323_0), .unset, .unset]) (hb hby at_88) rfl rfl rfl ?_
        refine own_aload Y362 hx (pc' := 92) (hb hby at_90) rfl rfl rfl ?_
        refine own_ifnullNo Y362 hx (pc' := 95) (hb hby at_92) rfl ?_
        refine own_aload Y362 hx (pc' := 97) (hb hby at_95) rfl rfl rfl ?_
        refine own_aload Y362 hx (pc' := 99) (hb hby at_97) rfl rfl rfl ?_
        have D363 : b10_0 ≠ b323_0 := (Nat.ne_of_lt (Nat.lt_of_lt_of_le F224.lt le_b323_0))
        refine own_acmp Y362 hx (pc' := 102) (same := false) (hb hby at_99) rfl rfl (decide_eq_false fun q => (Ne.symm D363) (Value.ref.inj q)) (by decide) (by decide) ?_
        refine own_iload Y362 hx (pc' := 104) (hb hby at_102) rfl rfl ?_
        refine own_ifYes Y362 hx (pc' := 111) (hb hby at_104) (by decide) (by decide) (by decide) ?_
        refine own_iconst Y362 hx (pc' := 112) (x := (0 : Int32)) (hb hby at_111) rfl (by decide) ?_
        refine own_aload Y362 hx (pc' := 114) (hb hby at_112) rfl rfl rfl ?_
        refine own_aload Y362 hx (pc' := 116) (hb hby at_114) rfl rfl rfl ?_
        have D364 : b1 ≠ b323_0 := (Nat.ne_of_lt (Nat.lt_of_lt_of_le F216.lt le_b323_0))
        refine own_acmp Y362 hx (pc' := 123) (same := false) (hb hby at_116) rfl rfl (decide_eq_false fun q => (Ne.symm D364) (Value.ref.inj q)) (by decide) (by decide) ?_
        refine own_iconst Y362 hx (pc' := 124) (x := (0 : Int32)) (hb hby at_123) rfl (by decide) ?_
        refine own_icmpNo Y362 hx (pc' := 127) (hb hby at_124) rfl (by decide) ?_
        refine own_aload Y362 hx (pc' := 129) (hb hby at_127) rfl rfl rfl ?_
        refine own_aload Y362 hx (pc' := 131) (hb hby at_129) rfl rfl rfl ?_
        have F366 := (own_E G10_20 K203)
        have D367 : b10_1 ≠ b323_0 := (Nat.ne_of_lt (Nat.lt_of_lt_of_le F366.lt le_b323_0))
        have D368 : b203_0 ≠ b323_0 := (Nat.ne_of_lt (Nat.lt_of_lt_of_le G203_14.lt le_b323_0))
        refine own_virtual Y362 hx (pc' := 134) (W := 0) (cl' := 7) (sl' := 62) (as' := [(.ref b323_0)]) (S' := []) (a := b10_0) hZ hown (own_w hw 162 rfl) (own_w hw 163 rfl) (notFace_of_selects (args := #[]) (mvT hZ (own_w hw 165 rfl))) (own_w hw 165 rfl) (own_w hw 164 rfl) (own_w hw 3 rfl) (own_w hw 166 rfl) (by decide) F348 (rm20_41 l Z a0 hw [] b10_0 b323_0 b1 b10_1 b203_0 h323 n0 (own_sz Y362) F349 (Ne.symm D364) F350 (Ne.symm D367) F351 (Ne.symm D368)) (hb hby at_131) rfl (by rw [hml]; rfl) rfl (lenOf pd__Lcom_example_napkintree_napkintree_balancing_MultiwayTree_Node__I rfl) rfl (by decide) (by decide) rfl rfl (by decide) (by decide) own_Same.sz (own_fixS (S2 := [(.int (3 : Int32))]) rfl (fun T365 Y365 => ?_))
        refine own_iload Y365 hx (pc' := 136) (hb hby at_134) rfl rfl ?_
        refine own_icmpNo Y365 hx (pc' := 139) (hb hby at_136) rfl (by decide) ?_
        refine own_iconst Y365 hx (pc' := 140) (x := (1 : Int32)) (hb hby at_139) rfl (by decide) ?_
        refine own_goto Y365 hx (pc' := 144) (hb hby at_140) (by decide) (by decide) ?_
        refine own_istore Y365 hx (pc' := 146) (Ls' := #[.val (.int p0), .val (.int p1), .val (.int p2), .val (.int p3), .val (.int (3 : Int32)), .val (.int (p3 &&& (3 : Int32))), .val (.int (1 : Int32)), .val (.int (2 : Int32)), .val (.ref b1), .val (.ref b3), .val (.ref b10_0), .val (.ref b323_0), .val (.int (1 : Int32)), .unset]) (hb hby at_144) rfl rfl ?_
        refine own_aload Y365 hx (pc' := 148) (hb hby at_146) rfl rfl rfl ?_
        refine own_iload Y365 hx (pc' := 150) (hb hby at_148) rfl rfl ?_
        refine own_virtual Y365 hx (pc' := 153) (W := 0) (cl' := 7) (sl' := 62) (as' := [(.int (p3 &&& (3 : Int32)))]) (S' := []) (a := b1) hZ hown (own_w hw 161 rfl) (own_w hw 57 rfl) (notFace_of_selects (args := #[]) (mvT hZ (own_w hw 59 rfl))) (own_w hw 59 rfl) (own_w hw 58 rfl) (own_w hw 3 rfl) (own_w hw 60 rfl) (by decide) F341 (rm8_35 l Z a0 hw [] b1 (p3 &&& (3 : Int32)) h323 n0 (own_sz Y365) F343 F344 F345 F346) (hb hby at_150) rfl (by rw [hml]; rfl) rfl (lenOf pd__I_Lcom_example_napkintree_napkintree_balancing_MultiwayTree_Node_ rfl) rfl (by decide) (by decide) rfl rfl (by decide) (by decide) own_Same.sz (own_fixS (S2 := [.null]) rfl (fun T369 Y369 => ?_))
        refine own_ifnonnullNo Y369 hx (pc' := 156) (hb hby at_153) rfl ?_
        refine own_iconst Y369 hx (pc' := 157) (x := (1 : Int32)) (hb hby at_156) rfl (by decide) ?_
        refine own_goto Y369 hx (pc' := 161) (hb hby at_157) (by decide) (by decide) ?_
        refine own_istore Y369 hx (pc' := 163) (Ls' := #[.val (.int p0), .val (.int p1), .val (.int p2), .val (.int p3), .val (.int (3 : Int32)), .val (.int (p3 &&& (3 : Int32))), .val (.int (1 : Int32)), .val (.int (2 : Int32)), .val (.ref b1), .val (.ref b3), .val (.ref b10_0), .val (.ref b323_0), .val (.int (1 : Int32)), .val (.int (1 : Int32))]) (hb hby at_161) rfl rfl ?_
        refine own_iload Y369 hx (pc' := 165) (hb hby at_163) rfl rfl ?_
        refine own_ifNo Y369 hx (pc' := 168) (hb hby at_165) rfl (by decide) ?_
        refine own_iload Y369 hx (pc' := 170) (hb hby at_168) rfl rfl ?_
        refine own_ifNo Y369 hx (pc' := 173) (hb hby at_170) rfl (by decide) ?_
        refine own_iconst Y369 hx (pc' := 174) (x := (1 : Int32)) (hb hby at_173) rfl (by decide) ?_
        refine own_goto Y369 hx (pc' := 178) (hb hby at_174) (by decide) (by decide) ?_
        exact own_retN Y369 hx hlk Bd.returns rfl (by simp) (hb hby at_178) ⟨rfl, trivial⟩ (by decide) (by decide)
theorem rm0 (l : Launch) (Z : State) (a0 : Array Value) (hw : ∀ d ∈ tables_1, d.before a0 Z = true) (ws : List Jvm.Cond) (w_NULL_KEY : Addr) (w_SPLIT : Addr) (w_ABSORBED : Addr) (w_NEW_ROOT : Addr) (p0 : Int32) (p1 : Int32) (p2 : Int32) (p3 : Int32) (h0 : Heap) (n0 : Nat) (Z0 : n0 ≤ Array.size h0) (PN : own_Pins Z h0 w_NULL_KEY w_SPLIT w_ABSORBED w_NEW_ROOT) :
    MetFree l x (head1 (Jvm.Cond.code x code maxLocals ret :: ws) room_1) (fun a U => a = #[(.int p0), (.int p1), (.int p2), (.int p3)] ∧ Z.Warmed39 U.vm ∧ U.heap = h0) (fun _ _ _ _ _ => True) (fun _ U o U' => ∃ v L, o = .returned v ∧ own_QQ n0 (own_R (some (.int (1 : Int32))) (fun _ => True)) v U'.heap L ∧ FrameEnd U o U' L room_1.cells room_1.slots) := by
  exact rm0_c l Z a0 hw ws w_NULL_KEY w_SPLIT w_ABSORBED w_NEW_ROOT p0 p1 p2 p3 h0 n0 Z0 PN
set_option maxRecDepth 65536 in
set_option maxHeartbeats 40000000 in
theorem comes_1 {Post : Tables → Env → Array Value → State → Outcome → State → Prop} (hpost : ∀ tb e args s v u, (limb_1_1.after args s (.returned v) u = true ∧ limb_1_2.after args s (.returned v) u = true ∧ True) → FrameEnd s (.returned v) u (Jvm.fieldLocs frame_1_writes args s ++ Jvm.arrayLocs frame_1_arrays args s ++ Jvm.staticLocs frame_1_statics s) 24 192 → Post tb e args s (.returned v) u) :
    ArmFor flags0 classFile x code maxLocals ret World_1 tables_1 room_1 Calls_1 rest_1 Pre_1 Post := by
  intro l hfl _ _ p e ha hc hk s m args below hf hA hF happ hP
  obtain ⟨hcalls, hrest, hpre⟩ := hP
  obtain ⟨-, -, -, hnamed, -, -, -, hat⟩ := (Spec.applies_iff hf).mp happ
  obtain ⟨hg, hn⟩ := and_e (Cond.before_iff.mp (show (Jvm.Cond.and given_1 narrow_1).before args s = true from hpre))
  obtain ⟨hgl, hgr⟩ := and_e hg
  obtain ⟨hgrl, hgrr⟩ := and_e hgr
  obtain ⟨hgrrl, hgrrr⟩ := and_e hgrr
  obtain ⟨hgrrrl, hgrrrr⟩ := and_e hgrrr
  obtain ⟨v0, v1, v2, v3, rfl⟩ : ∃ v0 v1 v2 v3 : Value, args = #[v0, v1, v2, v3] := by
    have hs : args.size = 4 := by simpa [Cond.value, given_1] using hgl
    obtain ⟨L⟩ := args
    match L, hs with
    | [v0, v1, v2, v3], _ => exact ⟨v0, v1, v2, v3, rfl⟩
  have hw := fun d (hd : d ∈ tables_1) => atoms_spec (ws := Jvm.Cond.code x code maxLocals ret :: tables_1) hat d (List.mem_cons_of_mem _ hd)
  have hfit : Fit s := fun {y c} hc i hi => by
    obtain ⟨ha, rfl⟩ := Array.getElem?_eq_some_iff.mp hc
    have q := List.all_eq_true.mp ((Array.all_eq_true_iff_forall_mem.mp hF) _ (Array.getElem_mem ha)) i (List.mem_range.mpr hi)
    simpa [Array.getElem?_eq_getElem hi] using q
  obtain ⟨p0, ei0⟩ := is_v hgrl
  obtain rfl : v0 = (.int p0) := Option.some.inj ei0
  obtain ⟨p1, ei1⟩ := is_v hgrrl
  obtain rfl : v1 = (.int p1) := Option.some.inj ei1
  obtain ⟨p2, ei2⟩ := is_v hgrrrl
  obtain rfl : v2 = (.int p2) := Option.some.inj ei2
  obtain ⟨p3, ei3⟩ := is_v hgrrrr
  obtain rfl : v3 = (.int p3) := Option.some.inj ei3
  obtain ⟨hnl, hnr⟩ := and_e hn
  obtain ⟨hnrl, hnrr⟩ := and_e hnr
  obtain ⟨hnrrl, hnrrr⟩ := and_e hnrr
  obtain ⟨hnrrrl, hnrrrr⟩ := and_e hnrrr
  obtain ⟨hnrrrrl, hnrrrrr⟩ := and_e hnrrrr
  obtain ⟨hnrrrrrl, hnrrrrrr⟩ := and_e hnrrrrr
  obtain ⟨hnrrrrrrl, hnrrrrrrr⟩ := and_e hnrrrrrr
  obtain ⟨w_NULL_KEY, ev_NULL_KEY⟩ := exa_v hnl
  have S_NULL_KEY := Sta.start ev_NULL_KEY (Or.inr ⟨(hw _ (List.mem_of_getElem? (i := 3) rfl)), (hw _ (List.mem_of_getElem? (i := 87) rfl))⟩)
  have E_NULL_KEY := Exa.start ev_NULL_KEY hnl
  obtain ⟨w_SPLIT, ev_SPLIT⟩ := exa_v hnrl
  have S_SPLIT := Sta.start ev_SPLIT (Or.inr ⟨(hw _ (List.mem_of_getElem? (i := 127) rfl)), (hw _ (List.mem_of_getElem? (i := 128) rfl))⟩)
  have E_SPLIT := Exa.start ev_SPLIT hnrl
  obtain ⟨w_ABSORBED, ev_ABSORBED⟩ := exa_v hnrrrrl
  have S_ABSORBED := Sta.start ev_ABSORBED (Or.inr ⟨(hw _ (List.mem_of_getElem? (i := 127) rfl)), (hw _ (List.mem_of_getElem? (i := 155) rfl))⟩)
  have E_ABSORBED := Exa.start ev_ABSORBED hnrrrrl
  obtain ⟨w_NEW_ROOT, ev_NEW_ROOT⟩ := exa_v hnrrrrrrl
  have S_NEW_ROOT := Sta.start ev_NEW_ROOT (Or.inr ⟨(hw _ (List.mem_of_getElem? (i := 127) rfl)), (hw _ (List.mem_of_getElem? (i := 157) rfl))⟩)
  have E_NEW_ROOT := Exa.start ev_NEW_ROOT hnrrrrrrl
  have F_SPLIT_ordinal := own_fld ev_SPLIT hnrrrl
  have F_ABSORBED_ordinal := own_fld ev_ABSORBED hnrrrrrl
  have F_NEW_ROOT_ordinal := own_fld ev_NEW_ROOT hnrrrrrrr
  have S_MARK_BITS := own_eqS hnrrl (hw _ (List.mem_of_getElem? (i := 19) rfl)) (hw _ (List.mem_of_getElem? (i := 142) rfl))
  obtain ⟨n, o, h1, h2, h3, _, L, rfl, ⟨N, rfl, -⟩, hq⟩ := rm0 l s _ hw tables_1 w_NULL_KEY w_SPLIT w_ABSORBED w_NEW_ROOT p0 p1 p2 p3 s.heap s.heap.size (Nat.le_refl _) (by exact ⟨S_NULL_KEY, E_NULL_KEY, S_SPLIT, E_SPLIT, S_ABSORBED, E_ABSORBED, S_NEW_ROOT, E_NEW_ROOT, F_SPLIT_ordinal, F_ABSORBED_ordinal, F_NEW_ROOT_ordinal, S_MARK_BITS⟩) p e ha hc hk s m _ below hf ((Spec.applies_iff_loose hf).mp happ).1 ⟨rfl, State.Warmed39.refl s, rfl⟩ trivial
  refine ⟨n, _, h1, h2, h3, hpost _ _ _ _ _ _ ⟨Cond.after_iff.mpr rfl, Cond.after_iff.mpr (eq_i res_at (Term.int_eval (1)) rfl), trivial⟩ ⟨hq.1, hq.2.1, (hq.2.2.sift fun y hy => Or.inr (N y hy)).mono (by decide) (by decide)⟩⟩
theorem main_1_1 : Claimed_1_1 := comes_1 fun _ _ _ _ _ _ h hF => ⟨h.1, Jvm.LamKit.wideOf hF⟩
theorem main_1_2 : Claimed_1_2 := comes_1 fun _ _ _ _ _ _ h hF => ⟨h.2.1, Jvm.LamKit.wideOf hF⟩
end Jvm.Pilot.@@N@@
namespace Jvm.Pilot.@@N@@
open Jvm Jvm.ClassFile Sem Op Lib Jvm.Free Jvm.Stand Jvm.Pilot.@@N@@.Jvm.D
/-! MADE BY PROGRAM (witnessworld.py) out of the Statement's table words and the real class files: 20 classes; the members and pool entries that the words name. The judged class is class 4, her method 1. -/
namespace start1
open Jvm.ClassFile
def u (s : String) : CpInfo := .utf8 (stringToUtf16 s)
/-- a pool by its gaps: so many unusable entries, then the entry; so many at the end -/
def gap : Nat → List CpInfo → List CpInfo
  | 0, r => r
  | n + 1, r => .unusable :: gap n r
def poolList (es : List (Nat × CpInfo)) (last : Nat) : List CpInfo := es.foldr (fun e r => gap e.1 (e.2 :: r)) (gap last [])
def pool (es : List (Nat × CpInfo)) (last : Nat) : Array CpInfo := ⟨poolList es last⟩
def fileOf (pool : Array CpInfo) (this : Nat) (attrs : Array Attribute := #[]) (ms : Array MethodInfo := #[]) (fl : Nat := 33) (sup : Nat := 0) (ifs : Array Nat := #[]) (fds : Array FieldInfo := #[]) : ClassFile where
  minorVersion := 0
  majorVersion := 65
  constantPool := pool
  accessFlags := fl
  thisClass := this
  superClass := sup
  interfaces := ifs
  fields := fds
  methods := ms
  attributes := attrs
def plain (name : String) (sup : Option ClassId) : Class where
  name := name
  kind := .ordinary
  loader := none
  accessFlags := 33
  super := sup
  interfaces := #[]
  cf := none
  fields := #[]
  methods := #[]
  instanceTypes := #[]
  staticTypes := #[]
  resolved := #[]
  callSites := []
  init := .initialized
  statics := none
  mirror := none

def pool0 : Array CpInfo := pool [(5, u "<init>"), (0, u "()V"), (1, .class_ 10), (1, u "java/lang/Object")] 113

def k0c0 : Code := { maxStack := 0, maxLocals := 1, code := object_method_1_code, exceptionTable := #[], attributes := #[] }
def k0m0 : Method := { name := "<init>", desc := "()V", sig := { parameters := [], returnType := none }, accessFlags := 1, code := some k0c0 }
/-- java/lang/Object -/
def k0 : Class := { plain "java/lang/Object" none with
  accessFlags := 33
  interfaces := #[]
  cf := some (fileOf pool0 8 #[] #[{ accessFlags := 1, nameIndex := 5, descriptorIndex := 6, attributes := #[] }] 33 0 #[] #[])
  fields := #[]
  methods := #[k0m0]
  instanceTypes := #[]
  staticTypes := #[]
  resolved := Array.replicate 124 none
  statics := none }

def pool1 : Array CpInfo := pool [(1, .class_ 2), (0, u "com/example/napkintree/napkintree/balancing/BalancedTree"), (0, .class_ 4), (0, u "java/lang/Object")] 43

/-- com/example/napkintree/napkintree/balancing/BalancedTree -/
def k1 : Class := { plain "com/example/napkintree/napkintree/balancing/BalancedTree" (some 0) with
  accessFlags := 1537
  interfaces := #[]
  cf := some (fileOf pool1 1 #[] #[] 1537 3 #[] #[])
  fields := #[]
  methods := #[]
  instanceTypes := #[]
  staticTypes := #[]
  resolved := Array.replicate 48 none
  statics := none }

def pool2 : Array CpInfo := pool [(1, .methodref 2 3), (0, .class_ 4), (0, .nameAndType 5 6), (0, u "java/lang/Object"), (0, u "<init>"), (0, u "()V"), (0, .fieldref 8 9), (0, .class_ 10), (0, .nameAndType 11 12), (0, u "com/example/napkintree/napkintree/balancing/SearchTree"), (0, u "comparator"), (0, u "Ljava/util/Comparator;"), (2, u "size"), (0, u "I"), (16, u "root"), (0, u "Lcom/example/napkintree/napkintree/balancing/KeyedNode;"), (8, .fieldref 8 44), (0, .nameAndType 45 16), (0, u "shapeCount"), (10, u "modCount"), (30, u "()I"), (12, .class_ 101), (0, u "com/example/napkintree/napkintree/balancing/SearchTree$EntryIterator"), (3, .class_ 106), (0, u "com/example/napkintree/napkintree/balancing/BalancedTree"), (3, u "(Ljava/util/Comparator;)V"), (41, .class_ 153), (0, u "com/example/napkintree/napkintree/balancing/SearchTree$LiveEntry")] 9

def k2c0 : Code := { maxStack := 2, maxLocals := 2, code := prog_35_method_1_code, exceptionTable := #[], attributes := #[] }
def k2m0 : Method := { name := "<init>", desc := "(Ljava/util/Comparator;)V", sig := { parameters := [(.object "java/util/Comparator")], returnType := none }, accessFlags := 4, code := some k2c0 }
def k2c1 : Code := { maxStack := 1, maxLocals := 1, code := prog_35_method_13_code, exceptionTable := #[], attributes := #[] }
def k2m1 : Method := { name := "shapeCount", desc := "()I", sig := { parameters := [], returnType := some .int }, accessFlags := 20, code := some k2c1 }
/-- com/example/napkintree/napkintree/balancing/SearchTree -/
def k2 : Class := { plain "com/example/napkintree/napkintree/balancing/SearchTree" (some 0) with
  accessFlags := 1057
  interfaces := #[1]
  cf := some (fileOf pool2 8 #[.nestMembers #[152, 100]] #[{ accessFlags := 4, nameIndex := 5, descriptorIndex := 110, attributes := #[] }, { accessFlags := 20, nameIndex := 45, descriptorIndex := 87, attributes := #[] }] 1057 2 #[105] #[{ accessFlags := 18, nameIndex := 11, descriptorIndex := 12, attributes := #[] }, { accessFlags := 4, nameIndex := 33, descriptorIndex := 34, attributes := #[] }, { accessFlags := 4, nameIndex := 15, descriptorIndex := 16, attributes := #[] }, { accessFlags := 2, nameIndex := 56, descriptorIndex := 16, attributes := #[] }, { accessFlags := 2, nameIndex := 45, descriptorIndex := 16, attributes := #[] }])
  fields := #[{ name := "comparator", type := (.object "java/util/Comparator"), accessFlags := 18, slot := 0, constantValue := 0 }, { name := "root", type := (.object "com/example/napkintree/napkintree/balancing/KeyedNode"), accessFlags := 4, slot := 1, constantValue := 0 }, { name := "size", type := .int, accessFlags := 4, slot := 2, constantValue := 0 }, { name := "modCount", type := .int, accessFlags := 2, slot := 3, constantValue := 0 }, { name := "shapeCount", type := .int, accessFlags := 2, slot := 4, constantValue := 0 }]
  methods := #[k2m0, k2m1]
  instanceTypes := #[(.object "java/util/Comparator"), (.object "com/example/napkintree/napkintree/balancing/KeyedNode"), .int, .int, .int]
  staticTypes := #[]
  resolved := Array.replicate 163 none
  statics := none }

def pool3 : Array CpInfo := pool [(1, .methodref 2 3), (0, .class_ 4), (0, .nameAndType 5 6), (0, u "com/example/napkintree/napkintree/balancing/SearchTree"), (0, u "<init>"), (0, u "(Ljava/util/Comparator;)V"), (0, .invokeDynamic 0 8), (0, .nameAndType 9 10), (0, u "markOf"), (0, u "(Lcom/example/napkintree/napkintree/balancing/MultiwayTree;)Lcom/example/napkintree/napkintree/balancing/OperationRecord;"), (0, .fieldref 12 13), (0, .class_ 14), (0, .nameAndType 15 16), (0, u "com/example/napkintree/napkintree/balancing/MultiwayTree"), (0, u "lastOperation"), (0, u "Lcom/example/napkintree/napkintree/balancing/OperationRecord;"), (4, .fieldref 12 22), (0, .nameAndType 23 24), (0, u "root"), (0, u "Lcom/example/napkintree/napkintree/balancing/KeyedNode;"), (0, .class_ 26), (0, u "com/example/napkintree/napkintree/balancing/MultiwayTree$Node"), (0, .methodref 25 28), (0, .nameAndType 5 29), (0, u "()V"), (5, u "()I"), (1, .nameAndType 38 39), (0, u "key"), (0, u "(I)Ljava/lang/Object;"), (7, u "I"), (6, u "child"), (8, .fieldref 64 65), (0, .class_ 66), (0, .nameAndType 67 68), (0, u "com/example/napkintree/napkintree/balancing/NodeMark"), (0, u "ABSORBED"), (0, u "Lcom/example/napkintree/napkintree/balancing/NodeMark;"), (0, .methodref 12 70), (0, .nameAndType 71 72), (0, u "mark"), (0, u "(Lcom/example/napkintree/napkintree/balancing/MultiwayTree$Node;Lcom/example/napkintree/napkintree/balancing/NodeMark;)V"), (0, .fieldref 25 74), (0, .nameAndType 75 76), (0, u "child0"), (0, u "Lcom/example/napkintree/napkintree/balancing/MultiwayTree$Node;"), (0, .methodref 12 78), (0, .nameAndType 79 80), (0, u "splitChild"), (0, u "(Lcom/example/napkintree/napkintree/balancing/MultiwayTree$Node;I)V"), (0, .fieldref 64 82), (0, .nameAndType 83 68), (0, u "NEW_ROOT"), (0, .methodref 25 85), (0, .nameAndType 54 86), (0, u "(I)Lcom/example/napkintree/napkintree/balancing/MultiwayTree$Node;"), (0, .fieldref 25 88), (0, .nameAndType 89 90), (0, u "key2"), (0, u "Ljava/lang/Object;"), (0, .fieldref 25 92), (0, .nameAndType 93 90), (0, u "key0"), (0, .fieldref 25 95), (0, .nameAndType 96 90), (0, u "value2"), (0, .fieldref 25 98), (0, .nameAndType 99 90), (0, u "value0"), (0, .fieldref 25 101), (0, .nameAndType 102 76), (0, u "child2"), (0, .fieldref 25 104), (0, .nameAndType 105 76), (0, u "child3"), (0, .fieldref 25 107), (0, .nameAndType 108 76), (0, u "child1"), (0, .methodref 25 37), (0, .methodref 25 111), (0, .nameAndType 112 39), (0, u "value"), (0, .fieldref 25 114), (0, .nameAndType 115 90), (0, u "key1"), (0, .fieldref 25 117), (0, .nameAndType 118 90), (0, u "value1"), (0, .methodref 25 120), (0, .nameAndType 121 122), (0, u "insert"), (0, u "(ILjava/lang/Object;Ljava/lang/Object;ILcom/example/napkintree/napkintree/balancing/MultiwayTree$Node;)V"), (0, .fieldref 64 124), (0, .nameAndType 125 68), (0, u "SPLIT"), (8, .methodref 12 135), (0, .nameAndType 136 35), (0, u "shapeCount"), (0, .fieldref 12 138), (0, .nameAndType 139 47), (0, u "MARK_BITS"), (0, .methodref 64 141), (0, .nameAndType 142 35), (0, u "ordinal"), (0, .fieldref 25 144), (0, .nameAndType 71 47), (2, u "MARK_CODES"), (2, u "MARKS"), (0, u "[Lcom/example/napkintree/napkintree/balancing/NodeMark;"), (14, u "(Ljava/util/Comparator;Lcom/example/napkintree/napkintree/balancing/NodeView;)V"), (12, u "splitRoot"), (7, u "(Lcom/example/napkintree/napkintree/balancing/NodeView;)Lcom/example/napkintree/napkintree/balancing/NodeMark;"), (15, .methodType 187), (0, .methodHandle 5 205), (0, .methodref 12 206), (0, .nameAndType 9 187), (0, .methodHandle 6 208), (0, .methodref 209 210), (0, .class_ 211), (0, .nameAndType 212 213), (0, u "java/lang/invoke/LambdaMetafactory"), (0, u "metafactory"), (0, u "(Ljava/lang/invoke/MethodHandles$Lookup;Ljava/lang/String;Ljava/lang/invoke/MethodType;Ljava/lang/invoke/MethodType;Ljava/lang/invoke/MethodHandle;Ljava/lang/invoke/MethodType;)Ljava/lang/invoke/CallSite;")] 7

def k3c0 : Code := { maxStack := 3, maxLocals := 3, code := prog_24_method_1_code, exceptionTable := #[], attributes := #[] }
def k3m0 : Method := { name := "<init>", desc := "(Ljava/util/Comparator;Lcom/example/napkintree/napkintree/balancing/NodeView;)V", sig := { parameters := [(.object "java/util/Comparator"), (.object "com/example/napkintree/napkintree/balancing/NodeView")], returnType := none }, accessFlags := 4, code := some k3c0 }
def k3c1 : Code := { maxStack := 3, maxLocals := 2, code := prog_24_method_5_code, exceptionTable := #[], attributes := #[] }
def k3m1 : Method := { name := "splitRoot", desc := "()V", sig := { parameters := [], returnType := none }, accessFlags := 20, code := some k3c1 }
def k3c2 : Code := { maxStack := 6, maxLocals := 7, code := prog_24_method_6_code, exceptionTable := #[], attributes := #[] }
def k3m2 : Method := { name := "splitChild", desc := "(Lcom/example/napkintree/napkintree/balancing/MultiwayTree$Node;I)V", sig := { parameters := [(.object "com/example/napkintree/napkintree/balancing/MultiwayTree$Node"), .int], returnType := none }, accessFlags := 20, code := some k3c2 }
def k3c3 : Code := { maxStack := 4, maxLocals := 3, code := prog_24_method_10_code, exceptionTable := #[], attributes := #[] }
def k3m3 : Method := { name := "mark", desc := "(Lcom/example/napkintree/napkintree/balancing/MultiwayTree$Node;Lcom/example/napkintree/napkintree/balancing/NodeMark;)V", sig := { parameters := [(.object "com/example/napkintree/napkintree/balancing/MultiwayTree$Node"), (.object "com/example/napkintree/napkintree/balancing/NodeMark")], returnType := none }, accessFlags := 2, code := some k3c3 }
def k3c4 : Code := { maxStack := 4, maxLocals := 6, code := ⟨#[0x01, 0x4d, 0x2b, 0xc1, 0x00, 0x19, 0x99, 0x00, 0x41, 0x2b, 0xc0, 0x00, 0x19, 0x4e, 0x2d, 0xb4, 0x00, 0x8f, 0xb2, 0x00, 0x91, 0x7e, 0x36, 0x04, 0x2d, 0xb4, 0x00, 0x8f, 0xb2, 0x00, 0x89, 0x7c, 0x2a, 0xb6, 0x00, 0x86, 0x02, 0xb2, 0x00, 0x89, 0x7c, 0x7e, 0xa0, 0x00, 0x07, 0x04, 0xa7, 0x00, 0x04, 0x03, 0x36, 0x05, 0x15, 0x04, 0x99, 0x00, 0x11, 0x15, 0x05, 0x99, 0x00, 0x0c, 0xb2, 0x00, 0x94, 0x15, 0x04, 0x04, 0x64, 0x32, 0x4d, 0x2c, 0xb0]⟩, exceptionTable := #[], attributes := #[] }
def k3m4 : Method := { name := "markOf", desc := "(Lcom/example/napkintree/napkintree/balancing/NodeView;)Lcom/example/napkintree/napkintree/balancing/NodeMark;", sig := { parameters := [(.object "com/example/napkintree/napkintree/balancing/NodeView")], returnType := some (.object "com/example/napkintree/napkintree/balancing/NodeMark") }, accessFlags := 2, code := some k3c4 }
/-- com/example/napkintree/napkintree/balancing/MultiwayTree -/
def k3 : Class := { plain "com/example/napkintree/napkintree/balancing/MultiwayTree" (some 2) with
  accessFlags := 1057
  interfaces := #[]
  cf := some (fileOf pool3 12 #[.nestMembers #[25], .bootstrapMethods #[⟨207, #[203, 204, 203]⟩]] #[{ accessFlags := 4, nameIndex := 5, descriptorIndex := 166, attributes := #[] }, { accessFlags := 20, nameIndex := 179, descriptorIndex := 29, attributes := #[] }, { accessFlags := 20, nameIndex := 79, descriptorIndex := 80, attributes := #[] }, { accessFlags := 2, nameIndex := 71, descriptorIndex := 72, attributes := #[] }, { accessFlags := 2, nameIndex := 9, descriptorIndex := 187, attributes := #[] }] 1057 2 #[] #[{ accessFlags := 26, nameIndex := 150, descriptorIndex := 151, attributes := #[] }, { accessFlags := 26, nameIndex := 139, descriptorIndex := 47, attributes := #[] }, { accessFlags := 26, nameIndex := 147, descriptorIndex := 47, attributes := #[] }, { accessFlags := 18, nameIndex := 15, descriptorIndex := 16, attributes := #[] }])
  fields := #[{ name := "MARKS", type := (.array (.object "com/example/napkintree/napkintree/balancing/NodeMark")), accessFlags := 26, slot := 0, constantValue := 0 }, { name := "MARK_BITS", type := .int, accessFlags := 26, slot := 1, constantValue := 0 }, { name := "MARK_CODES", type := .int, accessFlags := 26, slot := 2, constantValue := 0 }, { name := "lastOperation", type := (.object "com/example/napkintree/napkintree/balancing/OperationRecord"), accessFlags := 18, slot := 5, constantValue := 0 }]
  methods := #[k3m0, k3m1, k3m2, k3m3, k3m4]
  instanceTypes := #[(.object "java/util/Comparator"), (.object "com/example/napkintree/napkintree/balancing/KeyedNode"), .int, .int, .int, (.object "com/example/napkintree/napkintree/balancing/OperationRecord")]
  staticTypes := #[(.array (.object "com/example/napkintree/napkintree/balancing/NodeMark")), .int, .int]
  resolved := Array.replicate 221 none
  callSites := [(0, 7, .makes 19)]
  statics := some 0 }

def pool4 : Array CpInfo := pool [(1, .methodref 2 3), (0, .class_ 4), (0, .nameAndType 5 6), (0, u "com/example/napkintree/napkintree/balancing/MultiwayTree"), (0, u "<init>"), (0, u "(Ljava/util/Comparator;Lcom/example/napkintree/napkintree/balancing/NodeView;)V"), (0, .integer 2147483647), (0, .class_ 9), (0, u "com/example/napkintree/napkintree/balancing/MultiwayTree$Node"), (0, .methodref 8 11), (0, .nameAndType 5 12), (0, u "()V"), (0, .class_ 14), (0, u "com/example/napkintree/napkintree/balancing/NodeChildPinLaw"), (0, .methodref 13 11), (0, .fieldref 13 17), (0, .nameAndType 18 19), (0, u "root"), (0, u "Lcom/example/napkintree/napkintree/balancing/KeyedNode;"), (0, .methodref 13 21), (0, .nameAndType 22 12), (0, u "splitRoot"), (0, .methodref 13 24), (0, .nameAndType 25 26), (0, u "splitChild"), (0, u "(Lcom/example/napkintree/napkintree/balancing/MultiwayTree$Node;I)V"), (0, .methodref 8 28), (0, .nameAndType 29 30), (0, u "child"), (0, u "(I)Lcom/example/napkintree/napkintree/balancing/MultiwayTree$Node;"), (0, .methodref 8 32), (0, .nameAndType 33 34), (0, u "slotOf"), (0, u "(Lcom/example/napkintree/napkintree/balancing/MultiwayTree$Node;)I"), (6, u "law"), (0, u "(IIII)Z")] 7

def k4c0 : Code := { maxStack := 3, maxLocals := 1, code := method_1_code, exceptionTable := #[], attributes := #[] }
def k4m0 : Method := { name := "<init>", desc := "()V", sig := { parameters := [], returnType := none }, accessFlags := 2, code := some k4c0 }
def k4c1 : Code := { maxStack := 3, maxLocals := 14, code := code, exceptionTable := #[], attributes := #[] }
def k4m1 : Method := { name := "law", desc := "(IIII)Z", sig := { parameters := [.int, .int, .int, .int], returnType := some .boolean }, accessFlags := 9, code := some k4c1 }
/-- com/example/napkintree/napkintree/balancing/NodeChildPinLaw -/
def k4 : Class := { plain "com/example/napkintree/napkintree/balancing/NodeChildPinLaw" (some 3) with
  accessFlags := 49
  interfaces := #[]
  cf := some (fileOf pool4 13 #[] #[{ accessFlags := 2, nameIndex := 5, descriptorIndex := 12, attributes := #[] }, { accessFlags := 9, nameIndex := 41, descriptorIndex := 42, attributes := #[] }] 49 2 #[] #[])
  fields := #[]
  methods := #[k4m0, k4m1]
  instanceTypes := #[(.object "java/util/Comparator"), (.object "com/example/napkintree/napkintree/balancing/KeyedNode"), .int, .int, .int, (.object "com/example/napkintree/napkintree/balancing/OperationRecord")]
  staticTypes := #[]
  resolved := Array.replicate 50 none
  statics := none }

def pool5 : Array CpInfo := pool [(1, .class_ 2), (0, u "com/example/napkintree/napkintree/balancing/NodeView"), (0, .class_ 4), (0, u "java/lang/Object")] 14

/-- com/example/napkintree/napkintree/balancing/NodeView -/
def k5 : Class := { plain "com/example/napkintree/napkintree/balancing/NodeView" (some 0) with
  accessFlags := 1537
  interfaces := #[]
  cf := some (fileOf pool5 1 #[] #[] 1537 3 #[] #[])
  fields := #[]
  methods := #[]
  instanceTypes := #[]
  staticTypes := #[]
  resolved := Array.replicate 19 none
  statics := none }

def pool6 : Array CpInfo := pool [(1, .class_ 2), (0, u "com/example/napkintree/napkintree/balancing/KeyedNode"), (0, .class_ 4), (0, u "java/lang/Object")] 23

/-- com/example/napkintree/napkintree/balancing/KeyedNode -/
def k6 : Class := { plain "com/example/napkintree/napkintree/balancing/KeyedNode" (some 0) with
  accessFlags := 1537
  interfaces := #[]
  cf := some (fileOf pool6 1 #[] #[] 1537 3 #[] #[])
  fields := #[]
  methods := #[]
  instanceTypes := #[]
  staticTypes := #[]
  resolved := Array.replicate 28 none
  statics := none }

def pool7 : Array CpInfo := pool [(1, .methodref 2 3), (0, .class_ 4), (0, .nameAndType 5 6), (0, u "java/lang/Object"), (0, u "<init>"), (0, u "()V"), (0, .methodref 8 9), (0, .class_ 10), (0, .nameAndType 11 12), (0, u "com/example/napkintree/napkintree/balancing/MultiwayTree$Node"), (0, u "insertEntry"), (0, u "(ILjava/lang/Object;Ljava/lang/Object;)V"), (0, .methodref 8 14), (0, .nameAndType 15 16), (0, u "isLeaf"), (0, u "()Z"), (0, .methodref 8 18), (0, .nameAndType 19 20), (0, u "insertChild"), (0, u "(ILcom/example/napkintree/napkintree/balancing/MultiwayTree$Node;)V"), (7, .methodref 8 29), (0, .nameAndType 30 31), (0, u "slotFor"), (0, u "(Ljava/lang/Object;)Ljava/lang/Object;"), (0, .fieldref 8 33), (0, .nameAndType 34 35), (0, u "key2"), (0, u "Ljava/lang/Object;"), (0, .fieldref 8 37), (0, .nameAndType 38 35), (0, u "value2"), (0, .fieldref 8 40), (0, .nameAndType 41 35), (0, u "key1"), (0, .fieldref 8 43), (0, .nameAndType 44 35), (0, u "value1"), (0, .fieldref 8 46), (0, .nameAndType 47 35), (0, u "key0"), (0, .fieldref 8 49), (0, .nameAndType 50 35), (0, u "value0"), (0, .fieldref 8 52), (0, .nameAndType 53 54), (0, u "child3"), (0, u "Lcom/example/napkintree/napkintree/balancing/MultiwayTree$Node;"), (0, .fieldref 8 56), (0, .nameAndType 57 54), (0, u "child2"), (0, .fieldref 8 59), (0, .nameAndType 60 54), (0, u "child1"), (0, .fieldref 8 62), (0, .nameAndType 63 54), (0, u "child0"), (7, .methodref 8 72), (0, .nameAndType 73 31), (0, u "keyIn"), (8, u "NEVER_STORED"), (9, u "child"), (0, u "(I)Lcom/example/napkintree/napkintree/balancing/MultiwayTree$Node;"), (0, .fieldref 8 95), (0, .nameAndType 96 35), (0, u "NULL_KEY"), (7, .class_ 105), (0, u "com/example/napkintree/napkintree/balancing/NodeView"), (0, .class_ 107), (0, u "com/example/napkintree/napkintree/balancing/KeyedNode"), (0, u "mark"), (0, u "I"), (4, u "insert"), (0, u "(ILjava/lang/Object;Ljava/lang/Object;ILcom/example/napkintree/napkintree/balancing/MultiwayTree$Node;)V"), (15, u "slotOf"), (0, u "(Lcom/example/napkintree/napkintree/balancing/MultiwayTree$Node;)I"), (4, u "key"), (0, u "(I)Ljava/lang/Object;"), (2, u "value"), (10, .class_ 153), (0, u "com/example/napkintree/napkintree/balancing/MultiwayTree")] 2

def k7c0 : Code := { maxStack := 1, maxLocals := 1, code := prog_25_method_1_code, exceptionTable := #[], attributes := #[] }
def k7m0 : Method := { name := "<init>", desc := "()V", sig := { parameters := [], returnType := none }, accessFlags := 4, code := some k7c0 }
def k7c1 : Code := { maxStack := 4, maxLocals := 6, code := prog_25_method_2_code, exceptionTable := #[], attributes := #[] }
def k7m1 : Method := { name := "insert", desc := "(ILjava/lang/Object;Ljava/lang/Object;ILcom/example/napkintree/napkintree/balancing/MultiwayTree$Node;)V", sig := { parameters := [.int, (.object "java/lang/Object"), (.object "java/lang/Object"), .int, (.object "com/example/napkintree/napkintree/balancing/MultiwayTree$Node")], returnType := none }, accessFlags := 1, code := some k7c1 }
def k7c2 : Code := { maxStack := 2, maxLocals := 5, code := prog_25_method_4_code, exceptionTable := #[], attributes := #[] }
def k7m2 : Method := { name := "insertEntry", desc := "(ILjava/lang/Object;Ljava/lang/Object;)V", sig := { parameters := [.int, (.object "java/lang/Object"), (.object "java/lang/Object")], returnType := none }, accessFlags := 0, code := some k7c2 }
def k7c3 : Code := { maxStack := 2, maxLocals := 3, code := prog_25_method_6_code, exceptionTable := #[], attributes := #[] }
def k7m3 : Method := { name := "insertChild", desc := "(ILcom/example/napkintree/napkintree/balancing/MultiwayTree$Node;)V", sig := { parameters := [.int, (.object "com/example/napkintree/napkintree/balancing/MultiwayTree$Node")], returnType := none }, accessFlags := 2, code := some k7c3 }
def k7c4 : Code := { maxStack := 2, maxLocals := 2, code := prog_25_method_14_code, exceptionTable := #[], attributes := #[] }
def k7m4 : Method := { name := "slotOf", desc := "(Lcom/example/napkintree/napkintree/balancing/MultiwayTree$Node;)I", sig := { parameters := [(.object "com/example/napkintree/napkintree/balancing/MultiwayTree$Node")], returnType := some .int }, accessFlags := 1, code := some k7c4 }
def k7c5 : Code := { maxStack := 3, maxLocals := 3, code := prog_25_method_17_code, exceptionTable := #[], attributes := #[] }
def k7m5 : Method := { name := "key", desc := "(I)Ljava/lang/Object;", sig := { parameters := [.int], returnType := some (.object "java/lang/Object") }, accessFlags := 1, code := some k7c5 }
def k7c6 : Code := { maxStack := 1, maxLocals := 1, code := prog_25_method_18_code, exceptionTable := #[], attributes := #[] }
def k7m6 : Method := { name := "slotFor", desc := "(Ljava/lang/Object;)Ljava/lang/Object;", sig := { parameters := [(.object "java/lang/Object")], returnType := some (.object "java/lang/Object") }, accessFlags := 10, code := some k7c6 }
def k7c7 : Code := { maxStack := 2, maxLocals := 1, code := prog_25_method_19_code, exceptionTable := #[], attributes := #[] }
def k7m7 : Method := { name := "keyIn", desc := "(Ljava/lang/Object;)Ljava/lang/Object;", sig := { parameters := [(.object "java/lang/Object")], returnType := some (.object "java/lang/Object") }, accessFlags := 10, code := some k7c7 }
def k7c8 : Code := { maxStack := 3, maxLocals := 3, code := prog_25_method_20_code, exceptionTable := #[], attributes := #[] }
def k7m8 : Method := { name := "value", desc := "(I)Ljava/lang/Object;", sig := { parameters := [.int], returnType := some (.object "java/lang/Object") }, accessFlags := 1, code := some k7c8 }
def k7c9 : Code := { maxStack := 1, maxLocals := 1, code := prog_25_method_21_code, exceptionTable := #[], attributes := #[] }
def k7m9 : Method := { name := "isLeaf", desc := "()Z", sig := { parameters := [], returnType := some .boolean }, accessFlags := 1, code := some k7c9 }
def k7c10 : Code := { maxStack := 2, maxLocals := 2, code := prog_25_method_22_code, exceptionTable := #[], attributes := #[] }
def k7m10 : Method := { name := "child", desc := "(I)Lcom/example/napkintree/napkintree/balancing/MultiwayTree$Node;", sig := { parameters := [.int], returnType := some (.object "com/example/napkintree/napkintree/balancing/MultiwayTree$Node") }, accessFlags := 1, code := some k7c10 }
/-- com/example/napkintree/napkintree/balancing/MultiwayTree$Node -/
def k7 : Class := { plain "com/example/napkintree/napkintree/balancing/MultiwayTree$Node" (some 0) with
  accessFlags := 49
  interfaces := #[5, 6]
  cf := some (fileOf pool7 8 #[.nestHost 152] #[{ accessFlags := 4, nameIndex := 5, descriptorIndex := 6, attributes := #[] }, { accessFlags := 1, nameIndex := 114, descriptorIndex := 115, attributes := #[] }, { accessFlags := 0, nameIndex := 11, descriptorIndex := 12, attributes := #[] }, { accessFlags := 2, nameIndex := 19, descriptorIndex := 20, attributes := #[] }, { accessFlags := 1, nameIndex := 131, descriptorIndex := 132, attributes := #[] }, { accessFlags := 1, nameIndex := 137, descriptorIndex := 138, attributes := #[] }, { accessFlags := 10, nameIndex := 30, descriptorIndex := 31, attributes := #[] }, { accessFlags := 10, nameIndex := 73, descriptorIndex := 31, attributes := #[] }, { accessFlags := 1, nameIndex := 141, descriptorIndex := 138, attributes := #[] }, { accessFlags := 1, nameIndex := 15, descriptorIndex := 16, attributes := #[] }, { accessFlags := 1, nameIndex := 92, descriptorIndex := 93, attributes := #[] }] 49 2 #[104, 106] #[{ accessFlags := 26, nameIndex := 96, descriptorIndex := 35, attributes := #[] }, { accessFlags := 26, nameIndex := 82, descriptorIndex := 35, attributes := #[] }, { accessFlags := 2, nameIndex := 108, descriptorIndex := 109, attributes := #[] }, { accessFlags := 2, nameIndex := 47, descriptorIndex := 35, attributes := #[] }, { accessFlags := 2, nameIndex := 41, descriptorIndex := 35, attributes := #[] }, { accessFlags := 2, nameIndex := 34, descriptorIndex := 35, attributes := #[] }, { accessFlags := 2, nameIndex := 63, descriptorIndex := 54, attributes := #[] }, { accessFlags := 2, nameIndex := 60, descriptorIndex := 54, attributes := #[] }, { accessFlags := 2, nameIndex := 57, descriptorIndex := 54, attributes := #[] }, { accessFlags := 2, nameIndex := 53, descriptorIndex := 54, attributes := #[] }, { accessFlags := 2, nameIndex := 50, descriptorIndex := 35, attributes := #[] }, { accessFlags := 2, nameIndex := 44, descriptorIndex := 35, attributes := #[] }, { accessFlags := 2, nameIndex := 38, descriptorIndex := 35, attributes := #[] }])
  fields := #[{ name := "NULL_KEY", type := (.object "java/lang/Object"), accessFlags := 26, slot := 0, constantValue := 0 }, { name := "NEVER_STORED", type := (.object "java/lang/Object"), accessFlags := 26, slot := 1, constantValue := 0 }, { name := "mark", type := .int, accessFlags := 2, slot := 0, constantValue := 0 }, { name := "key0", type := (.object "java/lang/Object"), accessFlags := 2, slot := 1, constantValue := 0 }, { name := "key1", type := (.object "java/lang/Object"), accessFlags := 2, slot := 2, constantValue := 0 }, { name := "key2", type := (.object "java/lang/Object"), accessFlags := 2, slot := 3, constantValue := 0 }, { name := "child0", type := (.object "com/example/napkintree/napkintree/balancing/MultiwayTree$Node"), accessFlags := 2, slot := 4, constantValue := 0 }, { name := "child1", type := (.object "com/example/napkintree/napkintree/balancing/MultiwayTree$Node"), accessFlags := 2, slot := 5, constantValue := 0 }, { name := "child2", type := (.object "com/example/napkintree/napkintree/balancing/MultiwayTree$Node"), accessFlags := 2, slot := 6, constantValue := 0 }, { name := "child3", type := (.object "com/example/napkintree/napkintree/balancing/MultiwayTree$Node"), accessFlags := 2, slot := 7, constantValue := 0 }, { name := "value0", type := (.object "java/lang/Object"), accessFlags := 2, slot := 8, constantValue := 0 }, { name := "value1", type := (.object "java/lang/Object"), accessFlags := 2, slot := 9, constantValue := 0 }, { name := "value2", type := (.object "java/lang/Object"), accessFlags := 2, slot := 10, constantValue := 0 }]
  methods := #[k7m0, k7m1, k7m2, k7m3, k7m4, k7m5, k7m6, k7m7, k7m8, k7m9, k7m10]
  instanceTypes := #[.int, (.object "java/lang/Object"), (.object "java/lang/Object"), (.object "java/lang/Object"), (.object "com/example/napkintree/napkintree/balancing/MultiwayTree$Node"), (.object "com/example/napkintree/napkintree/balancing/MultiwayTree$Node"), (.object "com/example/napkintree/napkintree/balancing/MultiwayTree$Node"), (.object "com/example/napkintree/napkintree/balancing/MultiwayTree$Node"), (.object "java/lang/Object"), (.object "java/lang/Object"), (.object "java/lang/Object")]
  staticTypes := #[(.object "java/lang/Object"), (.object "java/lang/Object")]
  resolved := Array.replicate 156 none
  statics := some 1 }

def pool8 : Array CpInfo := pool [(3, u "markOf"), (2, .class_ 8), (1, u "com/example/napkintree/napkintree/balancing/OperationRecord"), (0, u "NONE"), (0, u "Lcom/example/napkintree/napkintree/balancing/OperationRecord;"), (0, .class_ 12), (0, u "java/lang/Object"), (0, u "(Lcom/example/napkintree/napkintree/balancing/NodeView;)Lcom/example/napkintree/napkintree/balancing/NodeMark;")] 29

def k8m0 : Method := { name := "markOf", desc := "(Lcom/example/napkintree/napkintree/balancing/NodeView;)Lcom/example/napkintree/napkintree/balancing/NodeMark;", sig := { parameters := [(.object "com/example/napkintree/napkintree/balancing/NodeView")], returnType := some (.object "com/example/napkintree/napkintree/balancing/NodeMark") }, accessFlags := 1025, code := none }
/-- com/example/napkintree/napkintree/balancing/OperationRecord -/
def k8 : Class := { plain "com/example/napkintree/napkintree/balancing/OperationRecord" (some 0) with
  accessFlags := 1537
  interfaces := #[]
  cf := some (fileOf pool8 6 #[] #[{ accessFlags := 1025, nameIndex := 3, descriptorIndex := 13, attributes := #[] }] 1537 11 #[] #[{ accessFlags := 25, nameIndex := 9, descriptorIndex := 10, attributes := #[] }])
  fields := #[{ name := "NONE", type := (.object "com/example/napkintree/napkintree/balancing/OperationRecord"), accessFlags := 25, slot := 0, constantValue := 0 }]
  methods := #[k8m0]
  instanceTypes := #[]
  staticTypes := #[(.object "com/example/napkintree/napkintree/balancing/OperationRecord")]
  resolved := Array.replicate 43 none
  statics := none }

def pool9 : Array CpInfo := pool [(1, .class_ 2), (0, u "java/lang/constant/Constable"), (0, .class_ 4), (0, u "java/lang/Object")] 6

/-- java/lang/constant/Constable -/
def k9 : Class := { plain "java/lang/constant/Constable" (some 0) with
  accessFlags := 1537
  interfaces := #[]
  cf := some (fileOf pool9 1 #[] #[] 1537 3 #[] #[])
  fields := #[]
  methods := #[]
  instanceTypes := #[]
  staticTypes := #[]
  resolved := Array.replicate 11 none
  statics := none }

def pool10 : Array CpInfo := pool [(1, .class_ 2), (0, u "java/lang/Comparable"), (0, .class_ 4), (0, u "java/lang/Object")] 7

/-- java/lang/Comparable -/
def k10 : Class := { plain "java/lang/Comparable" (some 0) with
  accessFlags := 1537
  interfaces := #[]
  cf := some (fileOf pool10 1 #[] #[] 1537 3 #[] #[])
  fields := #[]
  methods := #[]
  instanceTypes := #[]
  staticTypes := #[]
  resolved := Array.replicate 12 none
  statics := none }

def pool11 : Array CpInfo := pool [(1, .class_ 2), (0, u "java/io/Serializable"), (0, .class_ 4), (0, u "java/lang/Object")] 2

/-- java/io/Serializable -/
def k11 : Class := { plain "java/io/Serializable" (some 0) with
  accessFlags := 1537
  interfaces := #[]
  cf := some (fileOf pool11 1 #[] #[] 1537 3 #[] #[])
  fields := #[]
  methods := #[]
  instanceTypes := #[]
  staticTypes := #[]
  resolved := Array.replicate 7 none
  statics := none }

def pool12 : Array CpInfo := pool [(2, .class_ 4), (1, u "java/lang/Enum"), (0, u "name"), (0, u "Ljava/lang/String;"), (0, .fieldref 2 8), (0, .nameAndType 9 10), (0, u "ordinal"), (0, u "I"), (1, .class_ 14), (1, u "java/lang/Object"), (4, u "hash"), (86, .class_ 108), (1, u "java/lang/Enum$EnumDesc"), (2, .class_ 112), (0, u "java/lang/constant/Constable"), (0, .class_ 114), (0, u "java/lang/Comparable"), (0, .class_ 116), (0, u "java/io/Serializable"), (9, u "()I")] 77

def k12c0 : Code := { maxStack := 1, maxLocals := 1, code := jdk_37_method_2_code, exceptionTable := #[], attributes := #[] }
def k12m0 : Method := { name := "ordinal", desc := "()I", sig := { parameters := [], returnType := some .int }, accessFlags := 17, code := some k12c0 }
/-- java/lang/Enum -/
def k12 : Class := { plain "java/lang/Enum" (some 0) with
  accessFlags := 1057
  interfaces := #[9, 10, 11]
  cf := some (fileOf pool12 2 #[.nestMembers #[106]] #[{ accessFlags := 17, nameIndex := 9, descriptorIndex := 126, attributes := #[] }] 1057 12 #[111, 113, 115] #[{ accessFlags := 18, nameIndex := 5, descriptorIndex := 6, attributes := #[] }, { accessFlags := 18, nameIndex := 9, descriptorIndex := 10, attributes := #[] }, { accessFlags := 2, nameIndex := 19, descriptorIndex := 10, attributes := #[] }])
  fields := #[{ name := "name", type := (.object "java/lang/String"), accessFlags := 18, slot := 0, constantValue := 0 }, { name := "ordinal", type := .int, accessFlags := 18, slot := 1, constantValue := 0 }, { name := "hash", type := .int, accessFlags := 2, slot := 2, constantValue := 0 }]
  methods := #[k12m0]
  instanceTypes := #[(.object "java/lang/String"), .int, .int]
  staticTypes := #[]
  resolved := Array.replicate 204 none
  statics := none }

def pool13 : Array CpInfo := pool [(1, .class_ 2), (0, u "com/example/napkintree/napkintree/balancing/NodeMark"), (2, u "ABSORBED"), (0, u "Lcom/example/napkintree/napkintree/balancing/NodeMark;"), (2, u "SPLIT"), (2, u "NEW_ROOT"), (2, u "$VALUES"), (0, u "[Lcom/example/napkintree/napkintree/balancing/NodeMark;"), (6, .class_ 25), (1, u "java/lang/Enum"), (8, u "label"), (0, u "Ljava/lang/String;")] 29

/-- com/example/napkintree/napkintree/balancing/NodeMark -/
def k13 : Class := { plain "com/example/napkintree/napkintree/balancing/NodeMark" (some 12) with
  accessFlags := 16433
  interfaces := #[]
  cf := some (fileOf pool13 1 #[] #[] 16433 23 #[] #[{ accessFlags := 16409, nameIndex := 5, descriptorIndex := 6, attributes := #[] }, { accessFlags := 16409, nameIndex := 9, descriptorIndex := 6, attributes := #[] }, { accessFlags := 16409, nameIndex := 12, descriptorIndex := 6, attributes := #[] }, { accessFlags := 18, nameIndex := 34, descriptorIndex := 35, attributes := #[] }, { accessFlags := 4122, nameIndex := 15, descriptorIndex := 16, attributes := #[] }])
  fields := #[{ name := "ABSORBED", type := (.object "com/example/napkintree/napkintree/balancing/NodeMark"), accessFlags := 16409, slot := 0, constantValue := 0 }, { name := "SPLIT", type := (.object "com/example/napkintree/napkintree/balancing/NodeMark"), accessFlags := 16409, slot := 1, constantValue := 0 }, { name := "NEW_ROOT", type := (.object "com/example/napkintree/napkintree/balancing/NodeMark"), accessFlags := 16409, slot := 2, constantValue := 0 }, { name := "label", type := (.object "java/lang/String"), accessFlags := 18, slot := 3, constantValue := 0 }, { name := "$VALUES", type := (.array (.object "com/example/napkintree/napkintree/balancing/NodeMark")), accessFlags := 4122, slot := 3, constantValue := 0 }]
  methods := #[]
  instanceTypes := #[(.object "java/lang/String"), .int, .int, (.object "java/lang/String")]
  staticTypes := #[(.object "com/example/napkintree/napkintree/balancing/NodeMark"), (.object "com/example/napkintree/napkintree/balancing/NodeMark"), (.object "com/example/napkintree/napkintree/balancing/NodeMark"), (.array (.object "com/example/napkintree/napkintree/balancing/NodeMark"))]
  resolved := Array.replicate 65 none
  statics := some 2 }

def pool14 : Array CpInfo := pool [(1, u "java/lang/Cloneable"), (0, .class_ 1), (0, u "java/lang/Object"), (0, .class_ 3)] 3

/-- java/lang/Cloneable -/
def k14 : Class := { plain "java/lang/Cloneable" (some 0) with
  accessFlags := 1537
  interfaces := #[]
  cf := some (fileOf pool14 2 #[] #[] 1537 4 #[] #[])
  fields := #[]
  methods := #[]
  instanceTypes := #[]
  staticTypes := #[]
  resolved := Array.replicate 8 none
  statics := none }

/-- the primitive byte -/
def k15 : Class := { plain "byte" none with kind := .primitive 'B', accessFlags := 0x411 }
/-- [B -/
def k16 : Class := { plain "[B" (some 0) with kind := .array 15 .byte, interfaces := #[14, 11], accessFlags := 1041 }

/-- the primitive int -/
def k17 : Class := { plain "int" none with kind := .primitive 'I', accessFlags := 0x411 }
/-- [I -/
def k18 : Class := { plain "[I" (some 0) with kind := .array 17 .int, interfaces := #[14, 11], accessFlags := 1041 }

def classes0 : Array Class := #[k0, k1, k2, k3, k4, k5, k6, k7, k8, k9, k10, k11, k12, k13, k14, k15, k16, k17, k18]
/-- the class that the rule has made for the site at 7 of com/example/napkintree/napkintree/balancing/MultiwayTree.<init> -/
def k19 : Class := Jvm.LamKit.madeRec { classes := classes0 } "com/example/napkintree/napkintree/balancing/MultiwayTree" (Jvm.Lambda.Shape.mk "com/example/napkintree/napkintree/balancing/OperationRecord" "markOf" (Jvm.ClassFile.MethodDescriptor.mk ([(Jvm.ClassFile.FieldType.object "com/example/napkintree/napkintree/balancing/NodeView")] : List Jvm.ClassFile.FieldType) (Option.some (Jvm.ClassFile.FieldType.object "com/example/napkintree/napkintree/balancing/NodeMark"))) ([(Jvm.ClassFile.FieldType.object "com/example/napkintree/napkintree/balancing/MultiwayTree")] : List Jvm.ClassFile.FieldType) (5 : Nat) "com/example/napkintree/napkintree/balancing/MultiwayTree" "markOf" (Jvm.ClassFile.MethodDescriptor.mk ([(Jvm.ClassFile.FieldType.object "com/example/napkintree/napkintree/balancing/NodeView")] : List Jvm.ClassFile.FieldType) (Option.some (Jvm.ClassFile.FieldType.object "com/example/napkintree/napkintree/balancing/NodeMark"))) false (Jvm.ClassFile.MethodDescriptor.mk ([(Jvm.ClassFile.FieldType.object "com/example/napkintree/napkintree/balancing/NodeView")] : List Jvm.ClassFile.FieldType) (Option.some (Jvm.ClassFile.FieldType.object "com/example/napkintree/napkintree/balancing/NodeMark")))) 19

def heap : Heap := #[{ cls := 3, slots := #[.null, .int 2, .int 0], vm := .statics 3 },
  { cls := 7, slots := #[.ref 3, .null], vm := .statics 7 },
  { cls := 13, slots := #[.ref 5, .ref 4, .ref 6, .null], vm := .statics 13 },
  { cls := 0, slots := #[], vm := .none },
  { cls := 13, slots := #[.null, .int 1, .int 0, .null], vm := .none },
  { cls := 13, slots := #[.null, .int 0, .int 0, .null], vm := .none },
  { cls := 13, slots := #[.null, .int 2, .int 0, .null], vm := .none }]
def classes : Array Class := #[k0, k1, k2, k3, k4, k5, k6, k7, k8, k9, k10, k11, k12, k13, k14, k15, k16, k17, k18, k19]
def interned : List (Array UInt16 × Addr) := []
def slotsUsed : Nat := 21
def theMethod : MethodId := ⟨4, 1⟩
def args0 : Array Value := #[.int 5, .int 7, .int 8, .int 3]
def aboutOver (below : List Frame) : State where
  vm := { classes := classes, interned := interned.toArray }
  heap := heap
  slotsUsed := slotsUsed
  threads := #[{ frames := .invoking theMethod args0 :: below }]
def below0 : List Frame := [.native { method := ⟨0, 0⟩, args := #[] }]
def about1 : State := aboutOver below0
def p0 : Program := .bare "" "" ""
def e0 : Env := launch0.env 0 0 0
theorem w_frames : about1.frames = Frame.invoking theMethod args0 :: below0 := rfl
set_option maxRecDepth 65536 in
theorem w_args : argsFit about1.vm theMethod args0 = true := by decide +kernel
set_option maxRecDepth 65536 in
theorem w_heap : heapFits about1 = true := by decide +kernel
set_option maxRecDepth 65536 in
theorem w_runnable : about1.curStatus? = some .runnable := by decide +kernel
set_option maxRecDepth 65536 in
theorem w_alone : about1.alone = true := by decide +kernel
set_option maxRecDepth 65536 in
theorem w_named : about1.methodNamed? x = some theMethod := by decide +kernel
set_option maxRecDepth 65536 in
theorem w_hears : about1.hears theMethod below0 = true := by decide +kernel
set_option maxRecDepth 65536 in
theorem w_ripe : about1.ripe theMethod args0 below0 = true := by decide +kernel
theorem w_running : about1.status = .running := rfl
set_option maxRecDepth 65536 in
theorem w_room : about1.hasRoom e0.platform room_1 = true :=
  launch0.hasRoom_least _ room_1 (by decide +kernel) (by decide +kernel) (by decide +kernel) (by decide +kernel) (by decide +kernel) (by decide +kernel)
theorem allAtoms_all (ts : List Jvm.Cond) (a : Array Jvm.Value) (st : Jvm.State) : (allAtoms ts).before a st = ts.all (fun c => c.before a st) := by
  induction ts with
  | nil => rfl
  | cons c t ih =>
    show (Jvm.Cond.and c (allAtoms t)).before a st = _
    rw [Jvm.Cond.before_and, ih, List.all_cons]
def words1 : List Jvm.Cond := Jvm.Cond.code x code maxLocals ret :: tables_1
/-- a 'code' word, met by the world's own term for the bytes: nothing is compared byte by byte -/
theorem code_word {y : MethodName} {bytes : ByteArray} {mx : Nat} {rt : Option FieldType} {a : Array Value} {s : State} {m : MethodId} {meth : Method} {c : Code} (h1 : s.methodNamed? y = some m) (h2 : s.vm.method? m = some meth) (h3 : meth.code = some c) (h4 : c.code = bytes)
    (h5 : (c.maxLocals == mx && c.exceptionTable.isEmpty && decide (c.maxStack ≤ mostOperands) && decide (meth.sig.returnType = rt) && !meth.locks && decide (parseMethodDescriptor y.desc = some meth.sig)) = true) : (Jvm.Cond.code y bytes mx rt).before a s = true := by
  simp only [Bool.and_eq_true, beq_iff_eq, Bool.not_eq_true', decide_eq_true_eq] at h5
  obtain ⟨⟨⟨⟨⟨g1, g2⟩, g3⟩, g4⟩, g5⟩, g6⟩ := h5
  simp [Cond.before, Cond.holds, Cond.value, h1, h2, h3, h4, g1, g2, g3, g4, g5, g6]
def isCode : Jvm.Cond → Bool
  | .code _ _ _ _ => true
  | _ => false
theorem all_split {L : List Jvm.Cond} {P : Jvm.Cond → Bool} (h1 : L.all (fun c => isCode c || P c) = true) (h2 : ∀ c ∈ L.filter isCode, P c = true) : L.all P = true := by
  refine List.all_eq_true.mpr fun c hc => ?_
  have h := List.all_eq_true.mp h1 c hc
  rcases Bool.eq_false_or_eq_true (isCode c) with hi | hi
  · exact h2 c (List.mem_filter.mpr ⟨hc, hi⟩)
  · simpa [hi] using h
set_option maxRecDepth 65536 in
theorem w_c0 : (Jvm.Cond.code x code maxLocals ret).before args0 about1 = true := code_word (m := ⟨4, 1⟩) (meth := k4m1) (c := k4c1) (by decide +kernel) rfl rfl rfl (by decide +kernel)
set_option maxRecDepth 65536 in
theorem w_c1 : (Jvm.Cond.code ({ cls := "com/example/napkintree/napkintree/balancing/MultiwayTree$Node", name := "<init>", desc := "()V" } : Jvm.MethodName) prog_25_method_1_code (1 : Nat) (Option.none : Option Jvm.ClassFile.FieldType)).before args0 about1 = true := code_word (m := ⟨7, 0⟩) (meth := k7m0) (c := k7c0) (by decide +kernel) rfl rfl rfl (by decide +kernel)
set_option maxRecDepth 65536 in
theorem w_c2 : (Jvm.Cond.code ({ cls := "java/lang/Object", name := "<init>", desc := "()V" } : Jvm.MethodName) object_method_1_code (1 : Nat) (Option.none : Option Jvm.ClassFile.FieldType)).before args0 about1 = true := code_word (m := ⟨0, 0⟩) (meth := k0m0) (c := k0c0) (by decide +kernel) rfl rfl rfl (by decide +kernel)
set_option maxRecDepth 65536 in
theorem w_c3 : (Jvm.Cond.code ({ cls := "com/example/napkintree/napkintree/balancing/NodeChildPinLaw", name := "<init>", desc := "()V" } : Jvm.MethodName) method_1_code (1 : Nat) (Option.none : Option Jvm.ClassFile.FieldType)).before args0 about1 = true := code_word (m := ⟨4, 0⟩) (meth := k4m0) (c := k4c0) (by decide +kernel) rfl rfl rfl (by decide +kernel)
set_option maxRecDepth 65536 in
theorem w_c4 : (Jvm.Cond.code ({ cls := "com/example/napkintree/napkintree/balancing/MultiwayTree", name := "<init>", desc := "(Ljava/util/Comparator;Lcom/example/napkintree/napkintree/balancing/NodeView;)V" } : Jvm.MethodName) prog_24_method_1_code (3 : Nat) (Option.none : Option Jvm.ClassFile.FieldType)).before args0 about1 = true := code_word (m := ⟨3, 0⟩) (meth := k3m0) (c := k3c0) (by decide +kernel) rfl rfl rfl (by decide +kernel)
set_option maxRecDepth 65536 in
theorem w_c5 : (Jvm.Cond.code ({ cls := "com/example/napkintree/napkintree/balancing/SearchTree", name := "<init>", desc := "(Ljava/util/Comparator;)V" } : Jvm.MethodName) prog_35_method_1_code (2 : Nat) (Option.none : Option Jvm.ClassFile.FieldType)).before args0 about1 = true := code_word (m := ⟨2, 0⟩) (meth := k2m0) (c := k2c0) (by decide +kernel) rfl rfl rfl (by decide +kernel)
set_option maxRecDepth 65536 in
theorem w_c6 : (Jvm.Cond.code ({ cls := "com/example/napkintree/napkintree/balancing/MultiwayTree", name := "splitRoot", desc := "()V" } : Jvm.MethodName) prog_24_method_5_code (2 : Nat) (Option.none : Option Jvm.ClassFile.FieldType)).before args0 about1 = true := code_word (m := ⟨3, 1⟩) (meth := k3m1) (c := k3c1) (by decide +kernel) rfl rfl rfl (by decide +kernel)
set_option maxRecDepth 65536 in
theorem w_c7 : (Jvm.Cond.code ({ cls := "com/example/napkintree/napkintree/balancing/MultiwayTree", name := "splitChild", desc := "(Lcom/example/napkintree/napkintree/balancing/MultiwayTree$Node;I)V" } : Jvm.MethodName) prog_24_method_6_code (7 : Nat) (Option.none : Option Jvm.ClassFile.FieldType)).before args0 about1 = true := code_word (m := ⟨3, 2⟩) (meth := k3m2) (c := k3c2) (by decide +kernel) rfl rfl rfl (by decide +kernel)
set_option maxRecDepth 65536 in
theorem w_c8 : (Jvm.Cond.code ({ cls := "com/example/napkintree/napkintree/balancing/MultiwayTree$Node", name := "child", desc := "(I)Lcom/example/napkintree/napkintree/balancing/MultiwayTree$Node;" } : Jvm.MethodName) prog_25_method_22_code (2 : Nat) (Option.some (Jvm.ClassFile.FieldType.object "com/example/napkintree/napkintree/balancing/MultiwayTree$Node"))).before args0 about1 = true := code_word (m := ⟨7, 10⟩) (meth := k7m10) (c := k7c10) (by decide +kernel) rfl rfl rfl (by decide +kernel)
set_option maxRecDepth 65536 in
theorem w_c9 : (Jvm.Cond.code ({ cls := "com/example/napkintree/napkintree/balancing/MultiwayTree$Node", name := "key", desc := "(I)Ljava/lang/Object;" } : Jvm.MethodName) prog_25_method_17_code (3 : Nat) (Option.some (Jvm.ClassFile.FieldType.object "java/lang/Object"))).before args0 about1 = true := code_word (m := ⟨7, 5⟩) (meth := k7m5) (c := k7c5) (by decide +kernel) rfl rfl rfl (by decide +kernel)
set_option maxRecDepth 65536 in
theorem w_c10 : (Jvm.Cond.code ({ cls := "com/example/napkintree/napkintree/balancing/MultiwayTree$Node", name := "keyIn", desc := "(Ljava/lang/Object;)Ljava/lang/Object;" } : Jvm.MethodName) prog_25_method_19_code (1 : Nat) (Option.some (Jvm.ClassFile.FieldType.object "java/lang/Object"))).before args0 about1 = true := code_word (m := ⟨7, 7⟩) (meth := k7m7) (c := k7c7) (by decide +kernel) rfl rfl rfl (by decide +kernel)
set_option maxRecDepth 65536 in
theorem w_c11 : (Jvm.Cond.code ({ cls := "com/example/napkintree/napkintree/balancing/MultiwayTree$Node", name := "value", desc := "(I)Ljava/lang/Object;" } : Jvm.MethodName) prog_25_method_20_code (3 : Nat) (Option.some (Jvm.ClassFile.FieldType.object "java/lang/Object"))).before args0 about1 = true := code_word (m := ⟨7, 8⟩) (meth := k7m8) (c := k7c8) (by decide +kernel) rfl rfl rfl (by decide +kernel)
set_option maxRecDepth 65536 in
theorem w_c12 : (Jvm.Cond.code ({ cls := "com/example/napkintree/napkintree/balancing/MultiwayTree$Node", name := "insert", desc := "(ILjava/lang/Object;Ljava/lang/Object;ILcom/example/napkintree/napkintree/balancing/MultiwayTree$Node;)V" } : Jvm.MethodName) prog_25_method_2_code (6 : Nat) (Option.none : Option Jvm.ClassFile.FieldType)).before args0 about1 = true := code_word (m := ⟨7, 1⟩) (meth := k7m1) (c := k7c1) (by decide +kernel) rfl rfl rfl (by decide +kernel)
set_option maxRecDepth 65536 in
theorem w_c13 : (Jvm.Cond.code ({ cls := "com/example/napkintree/napkintree/balancing/MultiwayTree$Node", name := "insertEntry", desc := "(ILjava/lang/Object;Ljava/lang/Object;)V" } : Jvm.MethodName) prog_25_method_4_code (5 : Nat) (Option.none : Option Jvm.ClassFile.FieldType)).before args0 about1 = true := code_word (m := ⟨7, 2⟩) (meth := k7m2) (c := k7c2) (by decide +kernel) rfl rfl rfl (by decide +kernel)
set_option maxRecDepth 65536 in
theorem w_c14 : (Jvm.Cond.code ({ cls := "com/example/napkintree/napkintree/balancing/MultiwayTree$Node", name := "slotFor", desc := "(Ljava/lang/Object;)Ljava/lang/Object;" } : Jvm.MethodName) prog_25_method_18_code (1 : Nat) (Option.some (Jvm.ClassFile.FieldType.object "java/lang/Object"))).before args0 about1 = true := code_word (m := ⟨7, 6⟩) (meth := k7m6) (c := k7c6) (by decide +kernel) rfl rfl rfl (by decide +kernel)
set_option maxRecDepth 65536 in
theorem w_c15 : (Jvm.Cond.code ({ cls := "com/example/napkintree/napkintree/balancing/MultiwayTree$Node", name := "isLeaf", desc := "()Z" } : Jvm.MethodName) prog_25_method_21_code (1 : Nat) (Option.some Jvm.ClassFile.FieldType.boolean)).before args0 about1 = true := code_word (m := ⟨7, 9⟩) (meth := k7m9) (c := k7c9) (by decide +kernel) rfl rfl rfl (by decide +kernel)
set_option maxRecDepth 65536 in
theorem w_c16 : (Jvm.Cond.code ({ cls := "com/example/napkintree/napkintree/balancing/MultiwayTree$Node", name := "insertChild", desc := "(ILcom/example/napkintree/napkintree/balancing/MultiwayTree$Node;)V" } : Jvm.MethodName) prog_25_method_6_code (3 : Nat) (Option.none : Option Jvm.ClassFile.FieldType)).before args0 about1 = true := code_word (m := ⟨7, 3⟩) (meth := k7m3) (c := k7c3) (by decide +kernel) rfl rfl rfl (by decide +kernel)
set_option maxRecDepth 65536 in
theorem w_c17 : (Jvm.Cond.code ({ cls := "com/example/napkintree/napkintree/balancing/MultiwayTree", name := "mark", desc := "(Lcom/example/napkintree/napkintree/balancing/MultiwayTree$Node;Lcom/example/napkintree/napkintree/balancing/NodeMark;)V" } : Jvm.MethodName) prog_24_method_10_code (3 : Nat) (Option.none : Option Jvm.ClassFile.FieldType)).before args0 about1 = true := code_word (m := ⟨3, 3⟩) (meth := k3m3) (c := k3c3) (by decide +kernel) rfl rfl rfl (by decide +kernel)
set_option maxRecDepth 65536 in
theorem w_c18 : (Jvm.Cond.code ({ cls := "com/example/napkintree/napkintree/balancing/SearchTree", name := "shapeCount", desc := "()I" } : Jvm.MethodName) prog_35_method_13_code (1 : Nat) (Option.some Jvm.ClassFile.FieldType.int)).before args0 about1 = true := code_word (m := ⟨2, 1⟩) (meth := k2m1) (c := k2c1) (by decide +kernel) rfl rfl rfl (by decide +kernel)
set_option maxRecDepth 65536 in
theorem w_c19 : (Jvm.Cond.code ({ cls := "java/lang/Enum", name := "ordinal", desc := "()I" } : Jvm.MethodName) jdk_37_method_2_code (1 : Nat) (Option.some Jvm.ClassFile.FieldType.int)).before args0 about1 = true := code_word (m := ⟨12, 0⟩) (meth := k12m0) (c := k12c0) (by decide +kernel) rfl rfl rfl (by decide +kernel)
set_option maxRecDepth 65536 in
theorem w_c20 : (Jvm.Cond.code ({ cls := "com/example/napkintree/napkintree/balancing/MultiwayTree$Node", name := "slotOf", desc := "(Lcom/example/napkintree/napkintree/balancing/MultiwayTree$Node;)I" } : Jvm.MethodName) prog_25_method_14_code (2 : Nat) (Option.some Jvm.ClassFile.FieldType.int)).before args0 about1 = true := code_word (m := ⟨7, 4⟩) (meth := k7m4) (c := k7c4) (by decide +kernel) rfl rfl rfl (by decide +kernel)
def codes1 : List Jvm.Cond := [Jvm.Cond.code x code maxLocals ret, Jvm.Cond.code ({ cls := "com/example/napkintree/napkintree/balancing/MultiwayTree$Node", name := "<init>", desc := "()V" } : Jvm.MethodName) prog_25_method_1_code (1 : Nat) (Option.none : Option Jvm.ClassFile.FieldType), Jvm.Cond.code ({ cls := "java/lang/Object", name := "<init>", desc := "()V" } : Jvm.MethodName) object_method_1_code (1 : Nat) (Option.none : Option Jvm.ClassFile.FieldType), Jvm.Cond.code ({ cls := "com/example/napkintree/napkintree/balancing/NodeChildPinLaw", name := "<init>", desc := "()V" } : Jvm.MethodName) method_1_code (1 : Nat) (Option.none : Option Jvm.ClassFile.FieldType), Jvm.Cond.code ({ cls := "com/example/napkintree/napkintree/balancing/MultiwayTree", name := "<init>", desc := "(Ljava/util/Comparator;Lcom/example/napkintree/napkintree/balancing/NodeView;)V" } : Jvm.MethodName) prog_24_method_1_code (3 : Nat) (Option.none : Option Jvm.ClassFile.FieldType), Jvm.Cond.code ({ cls := "com/example/napkintree/napkintree/balancing/SearchTree", name := "<init>", desc := "(Ljava/util/Comparator;)V" } : Jvm.MethodName) prog_35_method_1_code (2 : Nat) (Option.none : Option Jvm.ClassFile.FieldType), Jvm.Cond.code ({ cls := "com/example/napkintree/napkintree/balancing/MultiwayTree", name := "splitRoot", desc := "()V" } : Jvm.MethodName) prog_24_method_5_code (2 : Nat) (Option.none : Option Jvm.ClassFile.FieldType), Jvm.Cond.code ({ cls := "com/example/napkintree/napkintree/balancing/MultiwayTree", name := "splitChild", desc := "(Lcom/example/napkintree/napkintree/balancing/MultiwayTree$Node;I)V" } : Jvm.MethodName) prog_24_method_6_code (7 : Nat) (Option.none : Option Jvm.ClassFile.FieldType), Jvm.Cond.code ({ cls := "com/example/napkintree/napkintree/balancing/MultiwayTree$Node", name := "child", desc := "(I)Lcom/example/napkintree/napkintree/balancing/MultiwayTree$Node;" } : Jvm.MethodName) prog_25_method_22_code (2 : Nat) (Option.some (Jvm.ClassFile.FieldType.object "com/example/napkintree/napkintree/balancing/MultiwayTree$Node")), Jvm.Cond.code ({ cls := "com/example/napkintree/napkintree/balancing/MultiwayTree$Node", name := "key", desc := "(I)Ljava/lang/Object;" } : Jvm.MethodName) prog_25_method_17_code (3 : Nat) (Option.some (Jvm.ClassFile.FieldType.object "java/lang/Object")), Jvm.Cond.code ({ cls := "com/example/napkintree/napkintree/balancing/MultiwayTree$Node", name := "keyIn", desc := "(Ljava/lang/Object;)Ljava/lang/Object;" } : Jvm.MethodName) prog_25_method_19_code (1 : Nat) (Option.some (Jvm.ClassFile.FieldType.object "java/lang/Object")), Jvm.Cond.code ({ cls := "com/example/napkintree/napkintree/balancing/MultiwayTree$Node", name := "value", desc := "(I)Ljava/lang/Object;" } : Jvm.MethodName) prog_25_method_20_code (3 : Nat) (Option.some (Jvm.ClassFile.FieldType.object "java/lang/Object")), Jvm.Cond.code ({ cls := "com/example/napkintree/napkintree/balancing/MultiwayTree$Node", name := "insert", desc := "(ILjava/lang/Object;Ljava/lang/Object;ILcom/example/napkintree/napkintree/balancing/MultiwayTree$Node;)V" } : Jvm.MethodName) prog_25_method_2_code (6 : Nat) (Option.none : Option Jvm.ClassFile.FieldType), Jvm.Cond.code ({ cls := "com/example/napkintree/napkintree/balancing/MultiwayTree$Node", name := "insertEntry", desc := "(ILjava/lang/Object;Ljava/lang/Object;)V" } : Jvm.MethodName) prog_25_method_4_code (5 : Nat) (Option.none : Option Jvm.ClassFile.FieldType), Jvm.Cond.code ({ cls := "com/example/napkintree/napkintree/balancing/MultiwayTree$Node", name := "slotFor", desc := "(Ljava/lang/Object;)Ljava/lang/Object;" } : Jvm.MethodName) prog_25_method_18_code (1 : Nat) (Option.some (Jvm.ClassFile.FieldType.object "java/lang/Object")), Jvm.Cond.code ({ cls := "com/example/napkintree/napkintree/balancing/MultiwayTree$Node", name := "isLeaf", desc := "()Z" } : Jvm.MethodName) prog_25_method_21_code (1 : Nat) (Option.some Jvm.ClassFile.FieldType.boolean), Jvm.Cond.code ({ cls := "com/example/napkintree/napkintree/balancing/MultiwayTree$Node", name := "insertChild", desc := "(ILcom/example/napkintree/napkintree/balancing/MultiwayTree$Node;)V" } : Jvm.MethodName) prog_25_method_6_code (3 : Nat) (Option.none : Option Jvm.ClassFile.FieldType), Jvm.Cond.code ({ cls := "com/example/napkintree/napkintree/balancing/MultiwayTree", name := "mark", desc := "(Lcom/example/napkintree/napkintree/balancing/MultiwayTree$Node;Lcom/example/napkintree/napkintree/balancing/NodeMark;)V" } : Jvm.MethodName) prog_24_method_10_code (3 : Nat) (Option.none : Option Jvm.ClassFile.FieldType), Jvm.Cond.code ({ cls := "com/example/napkintree/napkintree/balancing/SearchTree", name := "shapeCount", desc := "()I" } : Jvm.MethodName) prog_35_method_13_code (1 : Nat) (Option.some Jvm.ClassFile.FieldType.int), Jvm.Cond.code ({ cls := "java/lang/Enum", name := "ordinal", desc := "()I" } : Jvm.MethodName) jdk_37_method_2_code (1 : Nat) (Option.some Jvm.ClassFile.FieldType.int), Jvm.Cond.code ({ cls := "com/example/napkintree/napkintree/balancing/MultiwayTree$Node", name := "slotOf", desc := "(Lcom/example/napkintree/napkintree/balancing/MultiwayTree$Node;)I" } : Jvm.MethodName) prog_25_method_14_code (2 : Nat) (Option.some Jvm.ClassFile.FieldType.int)]
set_option maxRecDepth 65536 in
theorem codes_eq : words1.filter isCode = codes1 := rfl
theorem w_codes : ∀ c ∈ words1.filter isCode, c.before args0 about1 = true := by
  rw [codes_eq]
  intro c hc
  simp only [codes1, List.mem_cons, List.not_mem_nil, or_false] at hc
  rcases hc with rfl | rfl | rfl | rfl | rfl | rfl | rfl | rfl | rfl | rfl | rfl | rfl | rfl | rfl | rfl | rfl | rfl | rfl | rfl | rfl | rfl
  · exact w_c0
  · exact w_c1
  · exact w_c2
  · exact w_c3
  · exact w_c4
  · exact w_c5
  · exact w_c6
  · exact w_c7
  · exact w_c8
  · exact w_c9
  · exact w_c10
  · exact w_c11
  · exact w_c12
  · exact w_c13
  · exact w_c14
  · exact w_c15
  · exact w_c16
  · exact w_c17
  · exact w_c18
  · exact w_c19
  · exact w_c20
set_option maxRecDepth 65536 in
theorem w_t1 : (words1.take 24).all (fun c => isCode c || c.before args0 about1) = true := by decide +kernel
set_option maxRecDepth 65536 in
theorem w_t2 : ((words1.drop 24).take 24).all (fun c => isCode c || c.before args0 about1) = true := by decide +kernel
set_option maxRecDepth 65536 in
theorem w_t3 : (((words1.drop 24).drop 24).take 24).all (fun c => isCode c || c.before args0 about1) = true := by decide +kernel
set_option maxRecDepth 65536 in
theorem w_t4 : ((((words1.drop 24).drop 24).drop 24).take 24).all (fun c => isCode c || c.before args0 about1) = true := by decide +kernel
set_option maxRecDepth 65536 in
theorem w_t5 : (((((words1.drop 24).drop 24).drop 24).drop 24).take 24).all (fun c => isCode c || c.before args0 about1) = true := by decide +kernel
set_option maxRecDepth 65536 in
theorem w_t6 : ((((((words1.drop 24).drop 24).drop 24).drop 24).drop 24).take 24).all (fun c => isCode c || c.before args0 about1) = true := by decide +kernel
set_option maxRecDepth 65536 in
theorem w_t7 : ((((((words1.drop 24).drop 24).drop 24).drop 24).drop 24).drop 24).all (fun c => isCode c || c.before args0 about1) = true := by decide +kernel
theorem w_tables : (allAtoms (Jvm.Cond.code x code maxLocals ret :: tables_1)).before args0 about1 = true := by
  rw [allAtoms_all]
  show words1.all (fun c => c.before args0 about1) = true
  refine all_split ?_ w_codes
  rw [← List.take_append_drop 24 words1, List.all_append, w_t1, ← List.take_append_drop 24 (words1.drop 24), List.all_append, w_t2, ← List.take_append_drop 24 ((words1.drop 24).drop 24), List.all_append, w_t3, ← List.take_append_drop 24 (((words1.drop 24).drop 24).drop 24), List.all_append, w_t4, ← List.take_append_drop 24 ((((words1.drop 24).drop 24).drop 24).drop 24), List.all_append, w_t5, ← List.take_append_drop 24 (((((words1.drop 24).drop 24).drop 24).drop 24).drop 24), List.all_append, w_t6, w_t7]
  rfl
set_option maxRecDepth 65536 in
theorem w_case : (Jvm.Cond.and given_1 narrow_1).before args0 about1 = true := by decide +kernel
theorem w_applies : (headSpec (Jvm.Cond.code x code maxLocals ret :: tables_1) room_1).applies x e0.platform about1 = true :=
  (Spec.applies_iff w_frames).mpr ⟨w_running, w_runnable, w_alone, w_named, w_hears, w_ripe, w_room, w_tables⟩
theorem atStart : AtStart classFile x code maxLocals ret World_1 tables_1 room_1 Calls_1 rest_1 Pre_1 launch0 p0 e0 about1 theMethod args0 below0 :=
  ⟨lists_1, trivial, launch0.admits_env _ _ _, launch0.least_env, fairChoices_fair.cas, fairChoices_fair.clock, w_frames, w_args, w_heap, w_applies, trivial, trivial, w_case⟩
end start1
theorem witness_1 : WitnessClaimed_1 := ⟨start1.p0, start1.e0, start1.about1, start1.theMethod, start1.args0, start1.below0, start1.atStart⟩
end Jvm.Pilot.@@N@@

import Derived.Test.Qxb6600345aF
/-! THE PLAIN LAWS: two watched literals, a trail, reasons. No Go here. -/
namespace Go.Proofs.Qxb6600345a
set_option linter.unusedVariables false
set_option linter.unusedSimpArgs false

theorem vr_ng {l : Int} (h : 0 ≤ l) : vr (ng l) = vr l := by unfold vr ng; split <;> omega
theorem ng_ng {l : Int} (h : 0 ≤ l) : ng (ng l) = l := by unfold ng; split <;> split <;> omega
theorem ng_nn {l : Int} (h : 0 ≤ l) : 0 ≤ ng l := by unfold ng; split <;> omega
theorem ng_ne {l : Int} : ng l ≠ l := by unfold ng; split <;> omega
theorem ng_inj {a b : Int} (ha : 0 ≤ a) (hb : 0 ≤ b) (h : ng a = ng b) : a = b := by rw [← ng_ng ha, h, ng_ng hb]
theorem of_vr {a b : Int} (ha : 0 ≤ a) (hb : 0 ≤ b) (h : vr a = vr b) : a = b ∨ a = ng b := by
  unfold vr at h; unfold ng; split <;> omega

/-- a literal's value under an assignment -/
def lval (A : Nat → Int) (l : Int) : Int := lx (A (vr l)) l

theorem val_eq (σ : St) (l : Int) : σ.val l = lval σ.av l := rfl

/-- values are 0, 1, 2 -/
def Vals (A : Nat → Int) : Prop := ∀ v, 0 ≤ A v ∧ A v ≤ 2

theorem lval_rng {A : Nat → Int} (hA : Vals A) (l : Int) : 0 ≤ lval A l ∧ lval A l ≤ 2 := by
  have := hA (vr l)
  unfold lval lx
  split <;> omega
theorem lval_ng {A : Nat → Int} (hA : Vals A) {l : Int} (h : 0 ≤ l) : (lval A (ng l) = 1 ↔ lval A l = 2) ∧ (lval A (ng l) = 2 ↔ lval A l = 1) ∧ (lval A (ng l) = 0 ↔ lval A l = 0) := by
  have h1 := hA (vr l)
  unfold lval
  rw [vr_ng h]
  unfold lx ng
  by_cases he : l % 2 = 0
  · have : (l + 1) % 2 ≠ 0 := by omega
    by_cases h0 : A (vr l) = 0 <;> simp [he, h0, this] <;> omega
  · have : (l - 1) % 2 = 0 := by omega
    by_cases h0 : A (vr l) = 0 <;> simp [he, h0, this] <;> omega
theorem lval_zero {A : Nat → Int} (hA : Vals A) {l : Int} : lval A l = 0 ↔ A (vr l) = 0 := by
  have h1 := hA (vr l)
  unfold lval lx
  split <;> omega

/-- what makes l true -/
def tval (l : Int) : Int := 1 + l % 2

theorem vals_up {A : Nat → Int} (hA : Vals A) (l : Int) : Vals (up A (vr l) (tval l)) := by
  intro v
  unfold up tval
  split
  · omega
  · exact hA v
theorem lval_up_self (A : Nat → Int) (l : Int) : lval (up A (vr l) (tval l)) l = 1 := by
  unfold lval
  rw [up_same]
  unfold lx tval
  have : l % 2 = 0 ∨ l % 2 = 1 := by omega
  rcases this with h | h <;> simp [h]
theorem lval_up_ne (A : Nat → Int) {l q : Int} (h : vr q ≠ vr l) : lval (up A (vr l) (tval l)) q = lval A q := by
  unfold lval
  rw [up_ne _ _ h]

/-- a formula's make -/
structure Form (n m : Nat) (len : Nat → Nat) (cl0 : Nat → Nat → Int) : Prop where
  n1 : n ≤ 4096
  m1 : m ≤ 65536
  l2 : ∀ i, i < m → 2 ≤ len i
  l3 : ∀ i, i < m → len i ≤ 1048576
  rng : ∀ i, i < m → ∀ k, k < len i → 0 ≤ cl0 i k ∧ cl0 i k < 2 * (n : Int)
  inj : ∀ i, i < m → ∀ j k, j < len i → k < len i → vr (cl0 i j) = vr (cl0 i k) → j = k

/-- the solver's clauses are the given ones, each up to the order of its literals -/
structure Clauses (m : Nat) (len : Nat → Nat) (cl0 cl : Nat → Nat → Int) : Prop where
  sub : ∀ i, i < m → ∀ k, k < len i → ∃ k', k' < len i ∧ cl i k = cl0 i k'
  sup : ∀ i, i < m → ∀ k, k < len i → ∃ k', k' < len i ∧ cl0 i k = cl i k'
  inj : ∀ i, i < m → ∀ j k, j < len i → k < len i → vr (cl i j) = vr (cl i k) → j = k

def sw (a b k : Nat) : Nat := if k = b then a else if k = a then b else k
theorem sw_lt {a b k N : Nat} (ha : a < N) (hb : b < N) (hk : k < N) : sw a b k < N := by unfold sw; split <;> (try split) <;> omega
theorem sw_sw {a b k : Nat} : sw a b (sw a b k) = k := by unfold sw; split <;> (try split) <;> (try split) <;> (try split) <;> omega
theorem swap1_eq (f : Nat → Int) (a b k : Nat) : swap1 f a b k = f (sw a b k) := by
  unfold swap1 sw up
  split
  · rfl
  · split <;> rfl

theorem Clauses.swap {m : Nat} {len : Nat → Nat} {cl0 cl : Nat → Nat → Int} (h : Clauses m len cl0 cl) {i a b : Nat} (ha : a < len i) (hb : b < len i) : Clauses m len cl0 (up cl i (swap1 (cl i) a b)) := by
  have e : ∀ j k, up cl i (swap1 (cl i) a b) j k = cl j (if j = i then sw a b k else k) := by
    intro j k
    unfold up
    split
    · rename_i hj; subst hj; rw [swap1_eq]
    · rfl
  refine ⟨fun j hj k hk => ?_, fun j hj k hk => ?_, fun j hj p q hp hq hv => ?_⟩
  · rw [e]
    refine h.sub j hj _ ?_
    split
    · rename_i hji; subst hji; exact sw_lt ha hb hk
    · exact hk
  · obtain ⟨k', hk', hc⟩ := h.sup j hj k hk
    by_cases hji : j = i
    · subst hji
      exact ⟨sw a b k', sw_lt ha hb hk', by rw [e, if_pos rfl, sw_sw]; exact hc⟩
    · exact ⟨k', hk', by rw [e, if_neg hji]; exact hc⟩
  · rw [e, e] at hv
    by_cases hji : j = i
    · subst hji
      simp only [if_true] at hv
      have := h.inj j hj _ _ (sw_lt ha hb hp) (sw_lt ha hb hq) hv
      rw [← sw_sw (a := a) (b := b) (k := p), this, sw_sw]
    · simp only [if_neg hji] at hv
      exact h.inj j hj _ _ hp hq hv

theorem Clauses.rng {n m : Nat} {len : Nat → Nat} {cl0 cl : Nat → Nat → Int} (h : Clauses m len cl0 cl) (hf : Form n m len cl0) {i k : Nat} (hi : i < m) (hk : k < len i) : 0 ≤ cl i k ∧ cl i k < 2 * (n : Int) := by
  obtain ⟨k', hk', e⟩ := h.sub i hi k hk
  rw [e]
  exact hf.rng i hi k' hk'

/-- how many of the first k on the trail were decided -/
def decs (tr : List Int) (rs : Nat → Int) (k : Nat) : Nat := ((tr.take k).filter fun t => rs (vr t) == -1).length

/-- t, at place k of the trail, was decided, or its reason implies it from what lies before -/
def Reason (m : Nat) (len : Nat → Nat) (cl : Nat → Nat → Int) (r : Int) (t : Int) (bef : List Int) : Prop :=
  r = -1 ∨ (0 ≤ r ∧ r < (m : Int) ∧ cl r.toNat 0 = t ∧ ∀ j, 1 ≤ j → j < len r.toNat → ng (cl r.toNat j) ∈ bef)

structure Base (n m : Nat) (len : Nat → Nat) (cl0 : Nat → Nat → Int) (σ : St) : Prop where
  cls : Clauses m len cl0 σ.cl
  av : Vals σ.av
  trng : ∀ t ∈ σ.tr, 0 ≤ t ∧ t < 2 * (n : Int)
  ttrue : ∀ t ∈ σ.tr, σ.val t = 1
  tcov : ∀ v, σ.av v ≠ 0 → ∃ t ∈ σ.tr, vr t = v
  tnd : (σ.tr.map vr).Nodup
  rsn : ∀ k t, σ.tr[k]? = some t → Reason m len σ.cl (σ.rs (vr t)) t (σ.tr.take k)
  lvl : ∀ k t, σ.tr[k]? = some t → σ.lv (vr t) = (decs σ.tr σ.rs (k + 1) : Int)
  tll : σ.tl.length = decs σ.tr σ.rs σ.tr.length
  tl0 : ∀ y, σ.tl[0]? = some y → y = 0
  sn : ∀ v, σ.sn v = false
  qh : σ.qh ≤ σ.tr.length

structure WInv (n m : Nat) (σ : St) (p : Int) (R : List Int) : Prop where
  rng : ∀ l, l < 2 * n → ∀ c ∈ σ.wt l, 0 ≤ c ∧ c < (m : Int)
  nd : ∀ l, l < 2 * n → (σ.wt l).Nodup
  snd : ∀ l, l < 2 * n → ∀ c ∈ σ.wt l, σ.cl c.toNat 0 = ng l ∨ σ.cl c.toNat 1 = ng l
  cmp : ∀ i, i < m → (i : Int) ∈ σ.wt (ng (σ.cl i 0)).toNat ∧ (i : Int) ∈ σ.wt (ng (σ.cl i 1)).toNat
  inv : ∀ i, i < m → (ng (σ.cl i 0) ∈ σ.tr.take σ.qh → σ.val (σ.cl i 1) = 1 ∨ (ng (σ.cl i 0) = p ∧ (i : Int) ∈ R)) ∧
    (ng (σ.cl i 1) ∈ σ.tr.take σ.qh → σ.val (σ.cl i 0) = 1 ∨ (ng (σ.cl i 1) = p ∧ (i : Int) ∈ R))

/-- from σ to σ' : more is implied, nothing undone, nothing decided -/
structure Ext (σ σ' : St) : Prop where
  tr : ∃ ys, σ'.tr = σ.tr ++ ys ∧ ∀ y ∈ ys, σ'.rs (vr y) ≠ -1
  old : ∀ v, σ.av v ≠ 0 → σ'.av v = σ.av v ∧ σ'.rs v = σ.rs v
  tl : σ'.tl = σ.tl

/-- a list of different numbers below N is no longer than N -/
theorem nodup_le : ∀ (N : Nat) (l : List Nat), l.Nodup → (∀ x ∈ l, x < N) → l.length ≤ N
  | 0, l, _, h => by
    cases l with
    | nil => simp
    | cons a t => exact absurd (h a (by simp)) (by omega)
  | N + 1, l, hn, h => by
    have h1 : (l.erase N).Nodup := hn.erase N
    have h2 : ∀ x ∈ l.erase N, x < N := fun x hx => by
      have hx1 := h x (List.mem_of_mem_erase hx)
      have hx2 : x ≠ N := by
        rintro rfl
        exact (List.Nodup.mem_erase_iff hn).1 hx |>.1 rfl
      omega
    have h3 := nodup_le N _ h1 h2
    have h4 := List.length_erase (a := N) (l := l)
    split at h4 <;> omega

theorem nodup_le_int {N : Nat} {l : List Int} (hn : l.Nodup) (h : ∀ x ∈ l, 0 ≤ x ∧ x < (N : Int)) : l.length ≤ N := by
  have h1 : (l.map Int.toNat).Nodup := by
    rw [List.nodup_iff_pairwise_ne, List.pairwise_map]
    refine List.Pairwise.imp_of_mem ?_ (List.nodup_iff_pairwise_ne.1 hn)
    intro a b ha hb hne
    have := h a ha
    have := h b hb
    omega
  have h2 := nodup_le N (l.map Int.toNat) h1 (by
    intro x hx
    obtain ⟨y, hy, rfl⟩ := List.mem_map.1 hx
    have := h y hy
    omega)
  simpa using h2

section
variable {n m : Nat} {len : Nat → Nat} {cl0 : Nat → Nat → Int} {σ : St}

theorem Base.trlen (h : Base n m len cl0 σ) : σ.tr.length ≤ n := by
  have := nodup_le n (σ.tr.map vr) h.tnd (by
    intro x hx
    obtain ⟨t, ht, rfl⟩ := List.mem_map.1 hx
    have := h.trng t ht
    unfold vr
    omega)
  simpa using this

theorem Base.tllen (h : Base n m len cl0 σ) : σ.tl.length ≤ n := by
  have h1 := h.trlen
  have h2 : decs σ.tr σ.rs σ.tr.length ≤ (σ.tr.take σ.tr.length).length := List.length_filter_le _ _
  rw [h.tll]
  simp at h2
  omega

theorem WInv.wlen {p : Int} {R : List Int} (h : WInv n m σ p R) {l : Nat} (hl : l < 2 * n) : (σ.wt l).length ≤ m := nodup_le_int (h.nd l hl) (h.rng l hl)

/-- true literals are on the trail, false ones' negations -/
theorem Base.mem_tr (h : Base n m len cl0 σ) {l : Int} (h0 : 0 ≤ l) (h1 : l < 2 * (n : Int)) (hv : σ.val l = 1) : l ∈ σ.tr := by
  have hne : σ.av (vr l) ≠ 0 := fun e => by
    have := (lval_zero h.av (l := l)).2 e
    rw [val_eq] at hv
    omega
  obtain ⟨t, ht, hvt⟩ := h.tcov (vr l) hne
  have ht1 := h.ttrue t ht
  rcases of_vr (h.trng t ht).1 h0 hvt with e | e
  · rwa [← e]
  · rw [e, val_eq, (lval_ng h.av h0).1] at ht1
    rw [val_eq] at hv
    omega
theorem Base.mem_tr_ng (h : Base n m len cl0 σ) {l : Int} (h0 : 0 ≤ l) (h1 : l < 2 * (n : Int)) (hv : σ.val l = 2) : ng l ∈ σ.tr := by
  obtain ⟨a, b⟩ := ng_bound h0 h1
  exact h.mem_tr a b (by rw [val_eq, (lval_ng h.av h0).1]; exact hv)
theorem Base.val_of_mem_ng (h : Base n m len cl0 σ) {l : Int} (h0 : 0 ≤ l) (hm : ng l ∈ σ.tr) : σ.val l = 2 := by
  have := h.ttrue _ hm
  rw [val_eq] at this ⊢
  exact (lval_ng h.av h0).1.1 this

theorem Ext.refl (σ : St) : Ext σ σ := ⟨⟨[], by simp, by simp⟩, fun _ _ => ⟨rfl, rfl⟩, rfl⟩
theorem Ext.trans {σ' σ'' : St} (hb : Base n m len cl0 σ') (h : Ext σ σ') (k : Ext σ' σ'') : Ext σ σ'' := by
  obtain ⟨ys, hy, hys⟩ := h.tr
  obtain ⟨zs, hz, hzs⟩ := k.tr
  refine ⟨⟨ys ++ zs, by rw [hz, hy, List.append_assoc], fun y hm => ?_⟩, fun v hv => ?_, k.tl.trans h.tl⟩
  · rcases List.mem_append.1 hm with hm | hm
    · have hyt : y ∈ σ'.tr := by rw [hy]; exact List.mem_append_right _ hm
      have h1 := hb.ttrue y hyt
      have h0 : σ'.av (vr y) ≠ 0 := fun e => by
        have := (lval_zero hb.av (l := y)).2 e
        rw [val_eq] at h1
        omega
      rw [(k.old _ h0).2]
      exact hys y hm
    · exact hzs y hm
  · obtain ⟨a, b⟩ := h.old v hv
    obtain ⟨c, d⟩ := k.old v (by rw [a]; exact hv)
    exact ⟨c.trans a, d.trans b⟩

/-- the next literal of the trail is taken up -/
theorem pop_ok {q : Int} (h : Base n m len cl0 σ) (hw : WInv n m σ q []) {p : Int} (hp : σ.tr[σ.qh]? = some p) :
    Base n m len cl0 { σ with qh := σ.qh + 1 } ∧ WInv n m { σ with qh := σ.qh + 1 } p (σ.wt p.toNat) := by
  have hlt : σ.qh < σ.tr.length := (List.getElem?_eq_some_iff.1 hp).1
  have htk : σ.tr.take (σ.qh + 1) = σ.tr.take σ.qh ++ [p] := by
    rw [List.take_add_one, hp]; rfl
  refine ⟨{ h with qh := hlt }, { hw with inv := fun i hi => ?_ }⟩
  obtain ⟨c0, c1⟩ := hw.cmp i hi
  obtain ⟨v0, v1⟩ := hw.inv i hi
  show (ng (σ.cl i 0) ∈ σ.tr.take (σ.qh + 1) → _) ∧ (ng (σ.cl i 1) ∈ σ.tr.take (σ.qh + 1) → _)
  rw [htk]
  refine ⟨fun hm => ?_, fun hm => ?_⟩
  · rcases List.mem_append.1 hm with hm | hm
    · rcases v0 hm with e | ⟨_, e⟩
      · exact .inl e
      · cases e
    · have e : ng (σ.cl i 0) = p := by simpa using hm
      exact .inr ⟨e, by rw [← e]; exact c0⟩
  · rcases List.mem_append.1 hm with hm | hm
    · rcases v1 hm with e | ⟨_, e⟩
      · exact .inl e
      · cases e
    · have e : ng (σ.cl i 1) = p := by simpa using hm
      exact .inr ⟨e, by rw [← e]; exact c1⟩

/-- a clause whose first literal is not true is no reason -/
theorem Base.no_reason (h : Base n m len cl0 σ) {k i : Nat} {t : Int} (ht : σ.tr[k]? = some t) (hv : σ.val (σ.cl i 0) ≠ 1) : σ.rs (vr t) ≠ (i : Int) := by
  intro e
  rcases h.rsn k t ht with h1 | ⟨_, _, h1, _⟩
  · omega
  · rw [e] at h1
    simp only [Int.toNat_natCast] at h1
    exact hv (by rw [h1]; exact h.ttrue t (List.mem_of_getElem? ht))

/-- clauses that are no reasons may be turned -/
theorem Base.turn (h : Base n m len cl0 σ) {i a b : Nat} (hi : i < m) (ha : a < len i) (hb : b < len i) (hv : σ.val (σ.cl i 0) ≠ 1) (wt' : Nat → List Int) :
    Base n m len cl0 { σ with cl := up σ.cl i (swap1 (σ.cl i) a b), wt := wt' } := by
  refine { h with cls := h.cls.swap ha hb, rsn := fun k t ht => ?_ }
  rcases h.rsn k t ht with h1 | ⟨h1, h2, h3, h4⟩
  · exact .inl h1
  · have hne : (σ.rs (vr t)).toNat ≠ i := by
      intro e
      exact h.no_reason ht hv (by omega)
    refine .inr ⟨h1, h2, ?_, fun j hj1 hj2 => ?_⟩
    · show up σ.cl i _ _ 0 = t
      rw [up_ne _ _ hne]
      exact h3
    · show ng (up σ.cl i _ _ j) ∈ _
      rw [up_ne _ _ hne]
      exact h4 j hj1 hj2

/-- the two watched places of a clause change -/
theorem swap_ok (hf : Form n m len cl0) (h : Base n m len cl0 σ) {p : Int} {R : List Int} (hw : WInv n m σ p R) {i : Nat} (hi : i < m) (hv : σ.val (σ.cl i 0) ≠ 1) :
    Base n m len cl0 { σ with cl := up σ.cl i (swap1 (σ.cl i) 0 1) } ∧ WInv n m { σ with cl := up σ.cl i (swap1 (σ.cl i) 0 1) } p R := by
  have hl := hf.l2 i hi
  have e0 : ∀ j, up σ.cl i (swap1 (σ.cl i) 0 1) j 0 = if j = i then σ.cl i 1 else σ.cl j 0 := fun j => by
    unfold up; split
    · rw [swap1_eq]; rfl
    · rfl
  have e1 : ∀ j, up σ.cl i (swap1 (σ.cl i) 0 1) j 1 = if j = i then σ.cl i 0 else σ.cl j 1 := fun j => by
    unfold up; split
    · rw [swap1_eq]; rfl
    · rfl
  refine ⟨h.turn hi (by omega) (by omega) hv σ.wt, { hw with snd := fun l hl c hc => ?_, cmp := fun j hj => ?_, inv := fun j hj => ?_ }⟩
  · have := hw.snd l hl c hc
    show up σ.cl i _ c.toNat 0 = _ ∨ up σ.cl i _ c.toNat 1 = _
    rw [e0, e1]
    split
    · rename_i e; rw [e] at this; exact this.symm
    · exact this
  · have := hw.cmp j hj
    show (j : Int) ∈ σ.wt (ng (up σ.cl i _ j 0)).toNat ∧ (j : Int) ∈ σ.wt (ng (up σ.cl i _ j 1)).toNat
    rw [e0, e1]
    split
    · rename_i e; subst e; exact this.symm
    · exact this
  · have := hw.inv j hj
    show (ng (up σ.cl i _ j 0) ∈ σ.tr.take σ.qh → σ.val (up σ.cl i _ j 1) = 1 ∨ (ng (up σ.cl i _ j 0) = p ∧ (j : Int) ∈ R)) ∧ (ng (up σ.cl i _ j 1) ∈ σ.tr.take σ.qh → σ.val (up σ.cl i _ j 0) = 1 ∨ (ng (up σ.cl i _ j 1) = p ∧ (j : Int) ∈ R))
    rw [e0, e1]
    split
    · rename_i e; subst e; exact this.symm
    · exact this

/-- the first literal is true: the watch stays -/
theorem keep_ok (hf : Form n m len cl0) (h : Base n m len cl0 σ) {p : Int} {R : List Int} {i : Nat} (hi : i < m) (hw : WInv n m σ p ((i : Int) :: R)) (hv : σ.val (σ.cl i 0) = 1) : WInv n m σ p R := by
  refine { hw with inv := fun j hj => ?_ }
  obtain ⟨v0, v1⟩ := hw.inv j hj
  by_cases e : j = i
  · subst e
    refine ⟨fun hm => ?_, fun hm => .inl hv⟩
    have := h.val_of_mem_ng (h.cls.rng hf hj (by have := hf.l2 j hj; omega)).1 (List.mem_of_mem_take hm)
    omega
  · have hR : (j : Int) ∈ (i : Int) :: R → (j : Int) ∈ R := fun hm => by
      rcases List.mem_cons.1 hm with h1 | h1
      · omega
      · exact h1
    exact ⟨fun hm => (v0 hm).elim .inl fun a => .inr ⟨a.1, hR a.2⟩, fun hm => (v1 hm).elim .inl fun a => .inr ⟨a.1, hR a.2⟩⟩

/-- another literal is watched in the place of the second -/
theorem rewatch_ok (hf : Form n m len cl0) (h : Base n m len cl0 σ) {p : Int} {K R : List Int} {i k : Nat} (hi : i < m) (hw : WInv n m σ p ((i : Int) :: R)) (hK : σ.wt p.toNat = K ++ (i : Int) :: R)
    (hp0 : 0 ≤ p) (hp1 : p < 2 * (n : Int)) (hpt : p ∈ σ.tr) (hpi : σ.cl i 1 = ng p) (hv : σ.val (σ.cl i 0) ≠ 1) (hk2 : 2 ≤ k) (hk : k < len i) (hkv : σ.val (σ.cl i k) ≠ 2) :
    (ng (σ.cl i k)).toNat ≠ p.toNat ∧
    Base n m len cl0 { σ.rewatch i k with wt := up (σ.rewatch i k).wt p.toNat (K ++ R) } ∧ WInv n m { σ.rewatch i k with wt := up (σ.rewatch i k).wt p.toNat (K ++ R) } p R := by
  have hl := hf.l2 i hi
  have r0 := h.cls.rng hf hi (k := 0) (by omega)
  have r1 := h.cls.rng hf hi (k := 1) (by omega)
  have rk := h.cls.rng hf hi hk
  have bk := ng_bound rk.1 rk.2
  have b0 := ng_bound r0.1 r0.2
  have hne1k : σ.cl i 1 ≠ σ.cl i k := fun e => by have := h.cls.inj i hi 1 k (by omega) hk (by rw [e]); omega
  have hne0k : σ.cl i 0 ≠ σ.cl i k := fun e => by have := h.cls.inj i hi 0 k (by omega) hk (by rw [e]); omega
  have hne01 : σ.cl i 0 ≠ σ.cl i 1 := fun e => by have := h.cls.inj i hi 0 1 (by omega) (by omega) (by rw [e]); omega
  have hqp : ng (σ.cl i k) ≠ p := fun e => hne1k (by rw [hpi, ← e, ng_ng rk.1])
  have hqp' : (ng (σ.cl i k)).toNat ≠ p.toNat := by omega
  have h0p : ng (σ.cl i 0) ≠ p := fun e => hne01 (by rw [hpi, ← e, ng_ng r0.1])
  have h0q : ng (σ.cl i 0) ≠ ng (σ.cl i k) := fun e => hne0k (ng_inj r0.1 rk.1 e)
  have hpv : σ.val (σ.cl i 1) = 2 := h.val_of_mem_ng r1.1 (by rw [hpi, ng_ng hp0]; exact hpt)
  -- the new clauses
  have e0 : ∀ j, up σ.cl i (swap1 (σ.cl i) 1 k) j 0 = σ.cl j 0 := fun j => by
    unfold up; split
    · rename_i e; subst e; rw [swap1_eq]; unfold sw; rw [if_neg (by omega), if_neg (by omega)]
    · rfl
  have e1 : ∀ j, up σ.cl i (swap1 (σ.cl i) 1 k) j 1 = if j = i then σ.cl i k else σ.cl j 1 := fun j => by
    unfold up; split
    · rw [swap1_eq]; unfold sw; rw [if_neg (by omega), if_pos rfl]
    · rfl
  -- the new lists
  have w_at : ∀ l, up (σ.rewatch i k).wt p.toNat (K ++ R) l = if l = p.toNat then K ++ R else if l = (ng (σ.cl i k)).toNat then σ.wt l ++ [(i : Int)] else σ.wt l := fun l => by
    show up (up σ.wt (ng (σ.cl i k)).toNat (σ.wt (ng (σ.cl i k)).toNat ++ [(i : Int)])) p.toNat (K ++ R) l = _
    simp only [up]
    split
    · rfl
    · split
      · rename_i e; rw [e]
      · rfl
  have hnotin : ∀ c ∈ σ.wt (ng (σ.cl i k)).toNat, c ≠ (i : Int) := by
    rintro c hc rfl
    have hs := hw.snd _ (by omega) _ hc
    simp only [Int.toNat_natCast] at hs
    rw [show (((ng (σ.cl i k)).toNat : Nat) : Int) = ng (σ.cl i k) by omega, ng_ng rk.1] at hs
    rcases hs with e | e
    · exact hne0k e
    · exact hne1k e
  have hndp : (K ++ (i : Int) :: R).Nodup := by rw [← hK]; exact hw.nd _ (by omega)
  have hnd' : (K ++ R).Nodup ∧ (i : Int) ∉ K ++ R := by
    have := (List.perm_middle (a := (i : Int)) (l₁ := K) (l₂ := R)).nodup_iff.1 hndp
    rw [List.nodup_cons] at this
    exact ⟨this.2, this.1⟩
  have hmemp : ∀ c, c ∈ K ++ R → c ∈ σ.wt p.toNat := fun c hc => by
    rw [hK]
    rcases List.mem_append.1 hc with h1 | h1
    · exact List.mem_append_left _ h1
    · exact List.mem_append_right _ (List.mem_cons_of_mem _ h1)
  have htoi : ∀ {l : Nat} {c : Int}, l < 2 * n → c ∈ σ.wt l → c.toNat = i → c = (i : Int) := fun hl hc e => by have := hw.rng _ hl _ hc; omega
  refine ⟨hqp', h.turn hi (by omega) hk hv _, ?_, ?_, ?_, ?_, ?_⟩
  · intro l hl c hc
    rw [show ({ σ.rewatch i k with wt := up (σ.rewatch i k).wt p.toNat (K ++ R) } : St).wt l = _ from w_at l] at hc
    split at hc
    · rename_i e; subst e; exact hw.rng _ hl c (hmemp c hc)
    · split at hc
      · rcases List.mem_append.1 hc with h1 | h1
        · exact hw.rng l hl c h1
        · simp only [List.mem_cons, List.not_mem_nil, or_false] at h1; omega
      · exact hw.rng l hl c hc
  · intro l hl
    rw [show ({ σ.rewatch i k with wt := up (σ.rewatch i k).wt p.toNat (K ++ R) } : St).wt l = _ from w_at l]
    split
    · exact hnd'.1
    · split
      · rename_i e
        rw [List.nodup_append]
        refine ⟨hw.nd l hl, by simp, fun a ha b hb => ?_⟩
        simp only [List.mem_cons, List.not_mem_nil, or_false] at hb
        subst hb
        exact hnotin a (by rw [← e]; exact ha)
      · exact hw.nd l hl
  · intro l hl c hc
    rw [show ({ σ.rewatch i k with wt := up (σ.rewatch i k).wt p.toNat (K ++ R) } : St).wt l = _ from w_at l] at hc
    show up σ.cl i (swap1 (σ.cl i) 1 k) c.toNat 0 = _ ∨ up σ.cl i (swap1 (σ.cl i) 1 k) c.toNat 1 = _
    rw [e0, e1]
    split at hc
    · rename_i e
      subst e
      have hci : c.toNat ≠ i := fun e => hnd'.2 (by rw [← htoi hl (hmemp c hc) e]; exact hc)
      rw [if_neg hci]
      exact hw.snd _ hl c (hmemp c hc)
    · rename_i hlp
      split at hc
      · rename_i hlq
        rcases List.mem_append.1 hc with h1 | h1
        · have hci : c.toNat ≠ i := fun e => hnotin c (by rw [← hlq]; exact h1) (htoi hl h1 e)
          rw [if_neg hci]
          exact hw.snd l hl c h1
        · simp only [List.mem_cons, List.not_mem_nil, or_false] at h1
          subst h1
          right
          rw [if_pos (by simp), hlq, show (((ng (σ.cl i k)).toNat : Nat) : Int) = ng (σ.cl i k) by omega, ng_ng rk.1]
      · have hs := hw.snd l hl c hc
        by_cases hci : c.toNat = i
        · rw [hci] at hs ⊢
          rcases hs with hs | hs
          · exact .inl hs
          · exfalso
            rw [hpi] at hs
            have := ng_inj hp0 (by omega) hs
            omega
        · rw [if_neg hci]
          exact hs
  · intro j hj
    obtain ⟨c0, c1⟩ := hw.cmp j hj
    have q0 := h.cls.rng hf hj (k := 0) (by have := hf.l2 j hj; omega)
    have q1 := h.cls.rng hf hj (k := 1) (by have := hf.l2 j hj; omega)
    have stay : ∀ l, (j : Int) ∈ σ.wt l → (j ≠ i ∨ l ≠ p.toNat) → (j : Int) ∈ up (σ.rewatch i k).wt p.toNat (K ++ R) l := fun l hm hor => by
      rw [w_at]
      split
      · rename_i e
        subst e
        have hji : j ≠ i := hor.resolve_right (fun e => e rfl)
        rw [hK] at hm
        rcases List.mem_append.1 hm with h1 | h1
        · exact List.mem_append_left _ h1
        · rcases List.mem_cons.1 h1 with h2 | h2
          · omega
          · exact List.mem_append_right _ h2
      · split
        · exact List.mem_append_left _ hm
        · exact hm
    show (j : Int) ∈ up (σ.rewatch i k).wt p.toNat (K ++ R) (ng (up σ.cl i (swap1 (σ.cl i) 1 k) j 0)).toNat ∧ (j : Int) ∈ up (σ.rewatch i k).wt p.toNat (K ++ R) (ng (up σ.cl i (swap1 (σ.cl i) 1 k) j 1)).toNat
    rw [e0, e1]
    by_cases hji : j = i
    · subst hji
      rw [if_pos rfl]
      refine ⟨stay _ c0 (.inr (by omega)), ?_⟩
      rw [w_at, if_neg hqp', if_pos rfl]
      simp
    · rw [if_neg hji]
      exact ⟨stay _ c0 (.inl hji), stay _ c1 (.inl hji)⟩
  · intro j hj
    obtain ⟨v0, v1⟩ := hw.inv j hj
    show (ng (up σ.cl i (swap1 (σ.cl i) 1 k) j 0) ∈ σ.tr.take σ.qh → σ.val (up σ.cl i (swap1 (σ.cl i) 1 k) j 1) = 1 ∨ (ng (up σ.cl i (swap1 (σ.cl i) 1 k) j 0) = p ∧ (j : Int) ∈ R)) ∧
      (ng (up σ.cl i (swap1 (σ.cl i) 1 k) j 1) ∈ σ.tr.take σ.qh → σ.val (up σ.cl i (swap1 (σ.cl i) 1 k) j 0) = 1 ∨ (ng (up σ.cl i (swap1 (σ.cl i) 1 k) j 1) = p ∧ (j : Int) ∈ R))
    rw [e0, e1]
    by_cases hji : j = i
    · subst hji
      rw [if_pos rfl]
      refine ⟨fun hm => ?_, fun hm => ?_⟩
      · rcases v0 hm with e | ⟨e, _⟩
        · omega
        · exact absurd e h0p
      · exact absurd (h.val_of_mem_ng rk.1 (List.mem_of_mem_take hm)) hkv
    · rw [if_neg hji]
      have hR : (j : Int) ∈ (i : Int) :: R → (j : Int) ∈ R := fun hm => by
        rcases List.mem_cons.1 hm with h1 | h1
        · omega
        · exact h1
      exact ⟨fun hm => (v0 hm).elim .inl fun a => .inr ⟨a.1, hR a.2⟩, fun hm => (v1 hm).elim .inl fun a => .inr ⟨a.1, hR a.2⟩⟩

theorem decs_le (tr : List Int) (rs : Nat → Int) (k : Nat) (h : k ≤ tr.length) (ys : List Int) : decs (tr ++ ys) rs k = decs tr rs k := by
  unfold decs
  rw [List.take_append_of_le_length h]

theorem decs_congr {tr : List Int} {rs rs' : Nat → Int} (h : ∀ t ∈ tr, rs' (vr t) = rs (vr t)) (k : Nat) : decs tr rs' k = decs tr rs k := by
  unfold decs
  congr 1
  refine List.filter_congr fun t ht => ?_
  rw [h t (List.mem_of_mem_take ht)]

theorem decs_snoc (tr : List Int) (rs : Nat → Int) (l : Int) : decs (tr ++ [l]) rs (tr.length + 1) = decs tr rs tr.length + if rs (vr l) = -1 then 1 else 0 := by
  unfold decs
  rw [List.take_of_length_le (by simp), List.take_of_length_le (by simp), List.filter_append, List.length_append]
  congr 1
  simp only [List.filter_cons, List.filter_nil]
  by_cases h : rs (vr l) = -1 <;> simp [h]

/-- a literal that was unset is laid on the trail -/
theorem assign_ok (hf : Form n m len cl0) (h : Base n m len cl0 σ) {l frm : Int} (h0 : 0 ≤ l) (h1 : l < 2 * (n : Int)) (hv : σ.val l = 0)
    (tl' : List Int) (htl : tl'.length = decs σ.tr σ.rs σ.tr.length + if frm = -1 then 1 else 0) (htl0 : ∀ y, tl'[0]? = some y → y = 0)
    (hr : Reason m len σ.cl frm l σ.tr) : Base n m len cl0 (St.assign { σ with tl := tl' } l frm) := by
  have hz : σ.av (vr l) = 0 := (lval_zero h.av).1 (by rw [← val_eq]; exact hv)
  have hnot : ∀ t ∈ σ.tr, vr t ≠ vr l := fun t ht e => by
    have := h.ttrue t ht
    rw [val_eq] at this
    have h2 := (lval_zero h.av (l := t)).2 (by rw [e]; exact hz)
    omega
  have hval : ∀ t ∈ σ.tr, lval (up σ.av (vr l) (tval l)) t = 1 := fun t ht => by
    rw [lval_up_ne _ (hnot t ht)]
    exact h.ttrue t ht
  have hrs : ∀ t ∈ σ.tr, up σ.rs (vr l) frm (vr t) = σ.rs (vr t) := fun t ht => up_ne _ _ (hnot t ht)
  have hd : ∀ k, k ≤ σ.tr.length → decs (σ.tr ++ [l]) (up σ.rs (vr l) frm) k = decs σ.tr σ.rs k := fun k hk => by
    rw [decs_le _ _ _ hk, decs_congr hrs]
  have hdl : decs (σ.tr ++ [l]) (up σ.rs (vr l) frm) (σ.tr.length + 1) = tl'.length := by
    rw [decs_snoc, decs_congr hrs, up_same, htl]
  refine ⟨h.cls, vals_up h.av l, ?_, ?_, ?_, ?_, ?_, ?_, ?_, htl0, h.sn, ?_⟩
  · intro t ht
    rcases List.mem_append.1 ht with ht | ht
    · exact h.trng t ht
    · simp only [List.mem_cons, List.not_mem_nil, or_false] at ht; subst ht; exact ⟨h0, h1⟩
  · intro t ht
    show lval (up σ.av (vr l) (tval l)) t = 1
    rcases List.mem_append.1 ht with ht | ht
    · exact hval t ht
    · simp only [List.mem_cons, List.not_mem_nil, or_false] at ht; subst ht; exact lval_up_self _ _
  · intro v hva
    by_cases e : v = vr l
    · exact ⟨l, List.mem_append_right _ (by simp), e.symm⟩
    · have : up σ.av (vr l) (tval l) v = σ.av v := up_ne _ _ e
      obtain ⟨t, ht, hvt⟩ := h.tcov v (by rw [← this]; exact hva)
      exact ⟨t, List.mem_append_left _ ht, hvt⟩
  · show ((σ.tr ++ [l]).map vr).Nodup
    rw [List.map_append, List.nodup_append]
    refine ⟨h.tnd, by simp, fun a ha b hb => ?_⟩
    obtain ⟨t, ht, rfl⟩ := List.mem_map.1 ha
    simp only [List.map_cons, List.map_nil, List.mem_cons, List.not_mem_nil, or_false] at hb
    subst hb
    exact hnot t ht
  · intro k t hk
    have hk' : (σ.tr ++ [l])[k]? = some t := hk
    show Reason m len σ.cl (up σ.rs (vr l) frm (vr t)) t ((σ.tr ++ [l]).take k)
    rw [List.getElem?_append] at hk'
    split at hk'
    · rename_i hlt
      rw [List.take_append_of_le_length (by omega), hrs t (List.mem_of_getElem? hk')]
      exact h.rsn k t hk'
    · rename_i hge
      have hk1 : k - σ.tr.length = 0 ∧ t = l := by
        cases hkk : k - σ.tr.length with
        | zero => rw [hkk] at hk'; simp at hk'; exact ⟨rfl, hk'.symm⟩
        | succ q => rw [hkk] at hk'; simp at hk'
      obtain ⟨hk1, rfl⟩ := hk1
      have hkl : k = σ.tr.length := by omega
      subst hkl
      rw [up_same, List.take_append_of_le_length (Nat.le_refl _), List.take_length]
      exact hr
  · intro k t hk
    have hk' : (σ.tr ++ [l])[k]? = some t := hk
    show up σ.lv (vr l) (tl'.length : Int) (vr t) = (decs (σ.tr ++ [l]) (up σ.rs (vr l) frm) (k + 1) : Int)
    rw [List.getElem?_append] at hk'
    split at hk'
    · rename_i hlt
      rw [up_ne _ _ (hnot t (List.mem_of_getElem? hk')), hd _ (by omega)]
      exact h.lvl k t hk'
    · rename_i hge
      have hk1 : k - σ.tr.length = 0 ∧ t = l := by
        cases hkk : k - σ.tr.length with
        | zero => rw [hkk] at hk'; simp at hk'; exact ⟨rfl, hk'.symm⟩
        | succ q => rw [hkk] at hk'; simp at hk'
      obtain ⟨hk1, rfl⟩ := hk1
      have hkl : k = σ.tr.length := by omega
      subst hkl
      rw [up_same, hdl]
  · show tl'.length = decs (σ.tr ++ [l]) (up σ.rs (vr l) frm) (σ.tr ++ [l]).length
    rw [List.length_append]
    exact hdl.symm
  · show σ.qh ≤ (σ.tr ++ [l]).length
    have := h.qh
    simp
    omega

/-- the watches stand as they did when a literal that was unset is laid on the trail -/
theorem assign_watch (h : Base n m len cl0 σ) {p : Int} {R : List Int} (hw : WInv n m σ p R) {l frm : Int} (hv : σ.val l = 0) (tl' : List Int) :
    WInv n m (St.assign { σ with tl := tl' } l frm) p R := by
  have hz : σ.av (vr l) = 0 := (lval_zero h.av).1 (by rw [← val_eq]; exact hv)
  have hone : ∀ q, σ.val q = 1 → lval (up σ.av (vr l) (tval l)) q = 1 := fun q hq => by
    rw [lval_up_ne]
    · exact hq
    · intro e
      have h2 := (lval_zero h.av (l := q)).2 (by rw [e]; exact hz)
      rw [val_eq] at hq
      omega
  refine { hw with inv := fun i hi => ?_ }
  obtain ⟨v0, v1⟩ := hw.inv i hi
  show (ng (σ.cl i 0) ∈ (σ.tr ++ [l]).take σ.qh → lval (up σ.av (vr l) (tval l)) (σ.cl i 1) = 1 ∨ (ng (σ.cl i 0) = p ∧ (i : Int) ∈ R)) ∧ (ng (σ.cl i 1) ∈ (σ.tr ++ [l]).take σ.qh → lval (up σ.av (vr l) (tval l)) (σ.cl i 0) = 1 ∨ (ng (σ.cl i 1) = p ∧ (i : Int) ∈ R))
  rw [List.take_append_of_le_length h.qh]
  exact ⟨fun hm => (v0 hm).elim (fun e => .inl (hone _ e)) .inr, fun hm => (v1 hm).elim (fun e => .inl (hone _ e)) .inr⟩

/-- a clause that has become unit implies its first literal -/
theorem unit_ok (hf : Form n m len cl0) (h : Base n m len cl0 σ) {p : Int} {R : List Int} {i : Nat} (hi : i < m) (hw : WInv n m σ p ((i : Int) :: R)) (hv : σ.val (σ.cl i 0) = 0)
    (hall : ∀ j, 1 ≤ j → j < len i → σ.val (σ.cl i j) = 2) :
    Base n m len cl0 (σ.assign (σ.cl i 0) i) ∧ WInv n m (σ.assign (σ.cl i 0) i) p R ∧ Ext σ (σ.assign (σ.cl i 0) i) := by
  have hl := hf.l2 i hi
  have r0 := h.cls.rng hf hi (k := 0) (by omega)
  have hb : Base n m len cl0 (σ.assign (σ.cl i 0) i) := assign_ok hf h r0.1 r0.2 hv σ.tl (by rw [if_neg (by omega), h.tll]; rfl) h.tl0
    (.inr ⟨by omega, by omega, by simp, fun j h1 h2 => by
      simp only [Int.toNat_natCast] at h2 ⊢
      exact h.mem_tr_ng (h.cls.rng hf hi h2).1 (h.cls.rng hf hi h2).2 (hall j h1 h2)⟩)
  have hwa : WInv n m (σ.assign (σ.cl i 0) i) p ((i : Int) :: R) := assign_watch h hw hv σ.tl
  refine ⟨hb, keep_ok hf hb hi hwa (lval_up_self _ _), ⟨[σ.cl i 0], rfl, ?_⟩, ?_, rfl⟩
  · intro y hy
    simp only [List.mem_cons, List.not_mem_nil, or_false] at hy
    subst hy
    show up σ.rs _ _ _ ≠ _
    rw [up_same]
    omega
  · intro v hva
    have hne : v ≠ vr (σ.cl i 0) := by
      rintro rfl
      exact hva ((lval_zero h.av).1 (by rw [← val_eq]; exact hv))
    exact ⟨up_ne _ _ hne, up_ne _ _ hne⟩

/-- a decision -/
theorem decide_ok (hf : Form n m len cl0) (h : Base n m len cl0 σ) {p : Int} (hw : WInv n m σ p []) {d : Int} (h0 : 0 ≤ d) (h1 : d < 2 * (n : Int)) (hv : σ.val d = 0) :
    Base n m len cl0 (σ.level.assign d (-1)) ∧ WInv n m (σ.level.assign d (-1)) p [] := by
  refine ⟨assign_ok hf h h0 h1 hv (σ.tl ++ [(σ.tr.length : Int)]) ?_ ?_ (.inl rfl), assign_watch h hw hv _⟩
  · rw [List.length_append, h.tll, if_pos rfl]; rfl
  · intro y hy
    cases htl : σ.tl with
    | nil =>
      rw [htl] at hy
      have h2 := h.tll
      rw [htl] at h2
      have htr : σ.tr = [] := by
        cases hc : σ.tr with
        | nil => rfl
        | cons t ts =>
          exfalso
          have ht : σ.tr[0]? = some t := by rw [hc]; rfl
          have h3 : σ.rs (vr t) = -1 := by
            rcases h.rsn 0 t ht with e | ⟨e1, e2, _, e3⟩
            · exact e
            · have := e3 1 (Nat.le_refl _) (by have := hf.l2 (σ.rs (vr t)).toNat (by omega); omega)
              simp at this
          have h4 : t ∈ (σ.tr.take σ.tr.length).filter fun t => σ.rs (vr t) == -1 := by
            rw [List.mem_filter, List.take_length]
            exact ⟨by rw [hc]; simp, by simp [h3]⟩
          have h5 := List.length_pos_of_mem h4
          unfold decs at h2
          simp at h2
          simp [h2] at h5
      rw [htr] at hy
      simp at hy
      exact hy.symm
    | cons a b =>
      rw [htl] at hy
      exact h.tl0 y (by rw [htl]; simpa using hy)

/-- every clause has a true literal, or two that are not false -/
def Closed (m : Nat) (len : Nat → Nat) (cl0 : Nat → Nat → Int) (A : Nat → Int) : Prop :=
  ∀ i, i < m → (∃ k, k < len i ∧ lval A (cl0 i k) = 1) ∨ (∃ j k, j < len i ∧ k < len i ∧ j ≠ k ∧ lval A (cl0 i j) ≠ 2 ∧ lval A (cl0 i k) ≠ 2)

theorem closed_ok (hf : Form n m len cl0) (h : Base n m len cl0 σ) {p : Int} (hw : WInv n m σ p []) (hq : σ.qh = σ.tr.length) : Closed m len cl0 σ.av := by
  intro i hi
  have hl := hf.l2 i hi
  have r0 := h.cls.rng hf hi (k := 0) (by omega)
  have r1 := h.cls.rng hf hi (k := 1) (by omega)
  obtain ⟨v0, v1⟩ := hw.inv i hi
  rw [hq, List.take_length] at v0 v1
  obtain ⟨k0, hk0, e0⟩ := h.cls.sub i hi 0 (by omega)
  obtain ⟨k1, hk1, e1⟩ := h.cls.sub i hi 1 (by omega)
  by_cases h0 : σ.val (σ.cl i 0) = 2
  · rcases v0 (h.mem_tr_ng r0.1 r0.2 h0) with e | ⟨_, e⟩
    · exact .inl ⟨k1, hk1, by rw [← e1]; exact e⟩
    · cases e
  · by_cases h1 : σ.val (σ.cl i 1) = 2
    · rcases v1 (h.mem_tr_ng r1.1 r1.2 h1) with e | ⟨_, e⟩
      · exact .inl ⟨k0, hk0, by rw [← e0]; exact e⟩
      · cases e
    · refine .inr ⟨k0, k1, hk0, hk1, ?_, by rw [← e0]; exact h0, by rw [← e1]; exact h1⟩
      rintro rfl
      have := h.cls.inj i hi 0 1 (by omega) (by omega) (by rw [e0, e1])
      omega

end
end Go.Proofs.Qxb6600345a

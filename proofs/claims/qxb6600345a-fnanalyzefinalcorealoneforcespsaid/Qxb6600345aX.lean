import Derived.Test.Qxb6600345aV
/-! The walk back along the reasons, told plainly. -/
namespace Go.Proofs.Qxb6600345a
open Go.RowKit
set_option linter.unusedVariables false
set_option linter.unusedSimpArgs false

/-- the variables behind p: p's, and those of the reasons of the variables behind p -/
def Reach (σ : St) (len : Nat → Nat) (p : Int) (v : Nat) : Prop :=
  ∀ P : Nat → Prop, P (vr p) → (∀ (t : Int) (j : Nat), P (vr t) → t ∈ σ.tr → 0 ≤ σ.rs (vr t) → 1 ≤ j → j < len (σ.rs (vr t)).toNat → P (vr (σ.cl (σ.rs (vr t)).toNat j))) → P v

theorem Reach.base {σ : St} {len : Nat → Nat} {p : Int} : Reach σ len p (vr p) := fun _ h0 _ => h0
theorem Reach.step {σ : St} {len : Nat → Nat} {p : Int} {t : Int} {j : Nat} (h : Reach σ len p (vr t)) (h1 : t ∈ σ.tr) (h2 : 0 ≤ σ.rs (vr t)) (h3 : 1 ≤ j) (h4 : j < len (σ.rs (vr t)).toNat) : Reach σ len p (vr (σ.cl (σ.rs (vr t)).toNat j)) :=
  fun P h0 hs => hs t j (h P h0 hs) h1 h2 h3 h4
/-- by what is behind p one may go step by step -/
theorem Reach.along {σ : St} {len : Nat → Nat} {p : Int} (P : Nat → Prop) (h0 : P (vr p)) (hs : ∀ (t : Int) (j : Nat), Reach σ len p (vr t) → P (vr t) → t ∈ σ.tr → 0 ≤ σ.rs (vr t) → 1 ≤ j → j < len (σ.rs (vr t)).toNat → P (vr (σ.cl (σ.rs (vr t)).toNat j))) {v : Nat} (h : Reach σ len p v) : P v :=
  (h (fun v => Reach σ len p v ∧ P v) ⟨Reach.base, h0⟩ (fun t j hp h1 h2 h3 h4 => ⟨Reach.step hp.1 h1 h2 h3 h4, hs t j hp.1 hp.2 h1 h2 h3 h4⟩)).2
theorem Reach.back {σ : St} {len : Nat → Nat} {p : Int} {v : Nat} (h : Reach σ len p v) : v = vr p ∨ ∃ (t : Int) (j : Nat), Reach σ len p (vr t) ∧ t ∈ σ.tr ∧ 0 ≤ σ.rs (vr t) ∧ 1 ≤ j ∧ j < len (σ.rs (vr t)).toNat ∧ v = vr (σ.cl (σ.rs (vr t)).toNat j) :=
  Reach.along (fun v => v = vr p ∨ ∃ (t : Int) (j : Nat), Reach σ len p (vr t) ∧ t ∈ σ.tr ∧ 0 ≤ σ.rs (vr t) ∧ 1 ≤ j ∧ j < len (σ.rs (vr t)).toNat ∧ v = vr (σ.cl (σ.rs (vr t)).toNat j)) (.inl rfl) (fun t j h0 _ h1 h2 h3 h4 => .inr ⟨t, j, h0, h1, h2, h3, h4, rfl⟩) h

/-- d tells what is behind p -/
def Tells (σ : St) (len : Nat → Nat) (p : Int) (d : Nat → Bool) : Prop := ∀ v, d v = true ↔ Reach σ len p v
theorem tells (σ : St) (len : Nat → Nat) (p : Int) : ∃ d, Tells σ len p d :=
  ⟨fun v => @decide (Reach σ len p v) (Classical.propDecidable _), fun v => by simp⟩

/-- the decisions behind p among the trail from place i on, latest first -/
def coreOf (σ : St) (d : Nat → Bool) (i : Nat) : List Int := (σ.tr.drop i).reverse.filter fun t => d (vr t) && (σ.rs (vr t) == -1)

theorem coreOf_end (σ : St) (d : Nat → Bool) : coreOf σ d σ.tr.length = [] := by simp [coreOf]

theorem coreOf_step {σ : St} {len : Nat → Nat} {p : Int} {d : Nat → Bool} (hd : Tells σ len p d) {i : Nat} {t : Int} (ht : σ.tr[i]? = some t) :
    ((Reach σ len p (vr t) ∧ σ.rs (vr t) = -1) → coreOf σ d i = coreOf σ d (i + 1) ++ [t]) ∧ (¬ (Reach σ len p (vr t) ∧ σ.rs (vr t) = -1) → coreOf σ d i = coreOf σ d (i + 1)) := by
  obtain ⟨hl, e⟩ := List.getElem?_eq_some_iff.1 ht
  have hd' : σ.tr.drop i = t :: σ.tr.drop (i + 1) := by rw [List.drop_eq_getElem_cons hl, e]
  unfold coreOf
  rw [hd', List.reverse_cons, List.filter_append, ← hd (vr t)]
  constructor
  · intro h
    simp [h]
  · intro h
    have : (d (vr t) && (σ.rs (vr t) == -1)) = false := by
      cases hb : d (vr t) with
      | false => rfl
      | true =>
        have : σ.rs (vr t) ≠ -1 := fun e => h ⟨hb, e⟩
        simp [this]
    simp [this]

theorem coreOf_len (σ : St) (d : Nat → Bool) (i : Nat) : (coreOf σ d i).length ≤ σ.tr.length := by
  unfold coreOf
  exact Nat.le_trans (List.length_filter_le _ _) (by simp)

theorem coreOf_mem {σ : St} {len : Nat → Nat} {p : Int} {d : Nat → Bool} (hd : Tells σ len p d) {t : Int} : t ∈ coreOf σ d 0 ↔ t ∈ σ.tr ∧ Reach σ len p (vr t) ∧ σ.rs (vr t) = -1 := by
  unfold coreOf
  rw [← hd (vr t)]
  simp [List.mem_filter]

/-- what is marked when the places below i are still to come -/
structure Seen (σ : St) (len : Nat → Nat) (p : Int) (i : Nat) (s : Nat → Bool) : Prop where
  a : ∀ v, s v = true → Reach σ len p v ∧ ∃ k t, k < i ∧ σ.tr[k]? = some t ∧ vr t = v
  b : ∀ k t, k < i → σ.tr[k]? = some t → vr t = vr p → s (vr t) = true
  c : ∀ k t k' t' j, k < i → σ.tr[k]? = some t → i ≤ k' → σ.tr[k']? = some t' → Reach σ len p (vr t') → 0 ≤ σ.rs (vr t') → 1 ≤ j → j < len (σ.rs (vr t')).toNat → vr t = vr (σ.cl (σ.rs (vr t')).toNat j) → s (vr t) = true

section
variable {n m : Nat} {len : Nat → Nat} {cl0 : Nat → Nat → Int} {σ : St} {p : Int}

theorem mem_take {l : List Int} {k : Nat} {y : Int} (h : y ∈ l.take k) : ∃ q, q < k ∧ l[q]? = some y := by
  obtain ⟨q, hq⟩ := List.mem_iff_getElem?.1 h
  rw [List.getElem?_take] at hq
  split at hq
  · exact ⟨q, by assumption, hq⟩
  · cases hq

theorem Base.same_place (h : Base n m len cl0 σ) {k k' : Nat} {t t' : Int} (ht : σ.tr[k]? = some t) (ht' : σ.tr[k']? = some t') (e : vr t = vr t') : k = k' := by
  have h1 : (σ.tr.map vr)[k]? = some (vr t) := by rw [List.getElem?_map, ht]; rfl
  have h2 : (σ.tr.map vr)[k']? = some (vr t') := by rw [List.getElem?_map, ht']; rfl
  rw [e] at h1
  exact (List.getElem?_inj (List.getElem?_eq_some_iff.1 h1).1 h.tnd).1 (h1.trans h2.symm)

/-- the other literals of a reason lie earlier -/
theorem Base.earlier (hf : Form n m len cl0) (h : Base n m len cl0 σ) {k : Nat} {t : Int} (ht : σ.tr[k]? = some t) (hr : 0 ≤ σ.rs (vr t)) {j : Nat} (h1 : 1 ≤ j) (h2 : j < len (σ.rs (vr t)).toNat) :
    ∃ q y, q < k ∧ σ.tr[q]? = some y ∧ vr y = vr (σ.cl (σ.rs (vr t)).toNat j) := by
  rcases h.rsn k t ht with e | ⟨_, hm, _, h4⟩
  · omega
  · obtain ⟨q, hq, e⟩ := mem_take (h4 j h1 h2)
    exact ⟨q, _, hq, e, vr_ng (h.cls.rng hf (by omega) h2).1⟩

theorem Seen.start (h : Base n m len cl0 σ) (hp : σ.av (vr p) ≠ 0) : Seen σ len p σ.tr.length (up σ.sn (vr p) true) := by
  refine ⟨fun v hv => ?_, fun k t _ _ e => by rw [e, up_same], fun k t k' t' j _ _ hk' ht' => ?_⟩
  · by_cases e : v = vr p
    · subst e
      obtain ⟨t, ht, e⟩ := h.tcov _ hp
      obtain ⟨k, hk⟩ := List.mem_iff_getElem?.1 ht
      exact ⟨.base, k, t, (List.getElem?_eq_some_iff.1 hk).1, hk, e⟩
    · rw [up_ne _ _ e, h.sn] at hv
      cases hv
  · have := (List.getElem?_eq_some_iff.1 ht').1
    omega

theorem Seen.at (hf : Form n m len cl0) (h : Base n m len cl0 σ) {k : Nat} {t : Int} {s : Nat → Bool} (hs : Seen σ len p (k + 1) s) (ht : σ.tr[k]? = some t) : s (vr t) = true ↔ Reach σ len p (vr t) := by
  refine ⟨fun e => (hs.a _ e).1, fun e => ?_⟩
  generalize hv : vr t = v at e
  rcases e.back with e0 | ⟨t', j, hr, hm, h0, h1, h2, e0⟩
  · rw [← hv]; exact hs.b k t (by omega) ht (hv.trans e0)
  · rw [e0] at hv ⊢
    obtain ⟨k', hk'⟩ := List.mem_iff_getElem?.1 hm
    obtain ⟨q, y, hq, hy, e⟩ := h.earlier hf hk' h0 h1 h2
    have := h.same_place ht hy (hv.trans e.symm)
    rw [← hv]
    exact hs.c k t k' t' j (by omega) ht (by omega) hk' hr h0 h1 h2 hv

theorem Seen.skip (hf : Form n m len cl0) (h : Base n m len cl0 σ) {k : Nat} {t : Int} {s : Nat → Bool} (hs : Seen σ len p (k + 1) s) (ht : σ.tr[k]? = some t) (hn : s (vr t) = false) : Seen σ len p k s := by
  have hat := hs.at hf h ht
  refine ⟨fun v hv => ?_, fun q y hq hy e => hs.b q y (by omega) hy e, fun q y k' t' j hq hy hk' ht' hr h0 h1 h2 e => ?_⟩
  · obtain ⟨h1, q, y, hq, hy, e⟩ := hs.a v hv
    refine ⟨h1, q, y, ?_, hy, e⟩
    by_cases e2 : q = k
    · subst e2
      rw [hy] at ht
      obtain rfl : y = t := by simpa using ht
      rw [e, hv] at hn
      cases hn
    · omega
  · by_cases e2 : k' = k
    · subst e2
      rw [ht'] at ht
      obtain rfl : t' = t := by simpa using ht
      rw [hat.2 hr] at hn
      cases hn
    · exact hs.c q y k' t' j (by omega) hy (by omega) ht' hr h0 h1 h2 e

theorem Seen.dec (hf : Form n m len cl0) (h : Base n m len cl0 σ) {k : Nat} {t : Int} {s : Nat → Bool} (hs : Seen σ len p (k + 1) s) (ht : σ.tr[k]? = some t) (hr : σ.rs (vr t) = -1) : Seen σ len p k (up s (vr t) false) := by
  have hne : ∀ q y, q < k → σ.tr[q]? = some y → vr y ≠ vr t := fun q y hq hy e => by have := h.same_place hy ht e; omega
  refine ⟨fun v hv => ?_, fun q y hq hy e => ?_, fun q y k' t' j hq hy hk' ht' hr' h0 h1 h2 e => ?_⟩
  · by_cases e : v = vr t
    · rw [e, up_same] at hv; cases hv
    · rw [up_ne _ _ e] at hv
      obtain ⟨h1, q, y, hq, hy, e3⟩ := hs.a v hv
      refine ⟨h1, q, y, ?_, hy, e3⟩
      by_cases e2 : q = k
      · subst e2
        rw [hy] at ht
        obtain rfl : y = t := by simpa using ht
        exact absurd e3.symm e
      · omega
  · rw [up_ne _ _ (hne q y hq hy)]
    exact hs.b q y (by omega) hy e
  · rw [up_ne _ _ (hne q y hq hy)]
    by_cases e2 : k' = k
    · subst e2
      rw [ht'] at ht
      obtain rfl : t' = t := by simpa using ht
      omega
    · exact hs.c q y k' t' j (by omega) hy (by omega) ht' hr' h0 h1 h2 e

/-- after the first jj of the reason's other literals were marked -/
def Mark (s : Nat → Bool) (v0 : Nat) (c : Nat → Int) (jj : Nat) (s' : Nat → Bool) : Prop := ∀ v, s' v = true ↔ (v ≠ v0 ∧ s v = true) ∨ ∃ j, 1 ≤ j ∧ j < 1 + jj ∧ v = vr (c j)

theorem Mark.start (s : Nat → Bool) (v0 : Nat) (c : Nat → Int) : Mark s v0 c 0 (up s v0 false) := fun v => by
  constructor
  · intro hv
    by_cases e : v = v0
    · rw [e, up_same] at hv; cases hv
    · rw [up_ne _ _ e] at hv; exact .inl ⟨e, hv⟩
  · rintro (⟨e, hv⟩ | ⟨j, h1, h2, _⟩)
    · rw [up_ne _ _ e]; exact hv
    · omega
theorem Mark.step {s s' : Nat → Bool} {v0 : Nat} {c : Nat → Int} {jj : Nat} (h : Mark s v0 c jj s') : Mark s v0 c (jj + 1) (up s' (vr (c (1 + jj))) true) := fun v => by
  by_cases e : v = vr (c (1 + jj))
  · rw [e, up_same]
    exact ⟨fun _ => .inr ⟨1 + jj, by omega, by omega, rfl⟩, fun _ => rfl⟩
  · rw [up_ne _ _ e, h v]
    constructor
    · rintro (h1 | ⟨j, h1, h2, h3⟩)
      · exact .inl h1
      · exact .inr ⟨j, h1, by omega, h3⟩
    · rintro (h1 | ⟨j, h1, h2, h3⟩)
      · exact .inl h1
      · refine .inr ⟨j, h1, ?_, h3⟩
        by_cases e2 : j = 1 + jj
        · rw [e2] at h3; exact absurd h3 e
        · omega

theorem Seen.reason (hf : Form n m len cl0) (h : Base n m len cl0 σ) {k : Nat} {t : Int} {s s' : Nat → Bool} (hs : Seen σ len p (k + 1) s) (ht : σ.tr[k]? = some t) (hst : s (vr t) = true) {r : Nat} (hr : σ.rs (vr t) = (r : Int)) (hl : 1 ≤ len r) (hm : Mark s (vr t) (σ.cl r) (len r - 1) s') : Seen σ len p k s' := by
  have hre := (hs.at hf h ht).1 hst
  have hr0 : 0 ≤ σ.rs (vr t) := by omega
  have hrt : (σ.rs (vr t)).toNat = r := by rw [hr]; simp
  have hne : ∀ q y, q < k → σ.tr[q]? = some y → vr y ≠ vr t := fun q y hq hy e => by have := h.same_place hy ht e; omega
  refine ⟨fun v hv => ?_, fun q y hq hy e => ?_, fun q y k' t' j hq hy hk' ht' hr' h0 h1 h2 e => ?_⟩
  · rcases (hm v).1 hv with ⟨e, hv⟩ | ⟨j, h1, h2, e⟩
    · obtain ⟨h1, q, y, hq, hy, e3⟩ := hs.a v hv
      refine ⟨h1, q, y, ?_, hy, e3⟩
      by_cases e2 : q = k
      · subst e2
        rw [hy] at ht
        obtain rfl : y = t := by simpa using ht
        exact absurd e3.symm e
      · omega
    · have hj : j < len (σ.rs (vr t)).toNat := by rw [hrt]; omega
      have hst := Reach.step (j := j) hre (List.mem_of_getElem? ht) hr0 h1 hj
      have hea := h.earlier hf ht hr0 h1 hj
      rw [hrt] at hst hea
      rw [e]
      exact ⟨hst, hea⟩
  · exact (hm _).2 (.inl ⟨hne q y hq hy, hs.b q y (by omega) hy e⟩)
  · by_cases e2 : k' = k
    · subst e2
      rw [ht'] at ht
      obtain rfl : t' = t := by simpa using ht
      rw [hrt] at h2 e
      exact (hm _).2 (.inr ⟨j, h1, by omega, e⟩)
    · exact (hm _).2 (.inl ⟨hne q y hq hy, hs.c q y k' t' j (by omega) hy (by omega) ht' hr' h0 h1 h2 e⟩)

theorem Seen.done {s : Nat → Bool} (hs : Seen σ len p 0 s) : s = fun _ => false := by
  funext v
  cases e : s v with
  | false => rfl
  | true => obtain ⟨_, k, _, hk, _⟩ := hs.a v e; omega

/-- what lies on the trail lies at a level above 0 -/
theorem Base.lv_pos (hf : Form n m len cl0) (h : Base n m len cl0 σ) {v : Nat} (hv : ∃ (k : Nat) (t : Int), σ.tr[k]? = some t ∧ vr t = v) : 1 ≤ σ.lv v ∧ σ.lv v ≤ (n : Int) := by
  obtain ⟨k, t, ht, rfl⟩ := hv
  rw [h.lvl k t ht]
  have hk := (List.getElem?_eq_some_iff.1 ht).1
  have h1 := decs_pos hf h k hk
  have h2 := decs_le_k σ.tr σ.rs (k + 1)
  have h3 := h.trlen
  omega

theorem Base.lv_reason (hf : Form n m len cl0) (h : Base n m len cl0 σ) {k : Nat} {t : Int} (ht : σ.tr[k]? = some t) {r : Nat} (hr : σ.rs (vr t) = (r : Int)) {j : Nat} (h1 : 1 ≤ j) (h2 : j < len r) : 1 ≤ σ.lv (vr (σ.cl r j)) := by
  have hrt : (σ.rs (vr t)).toNat = r := by rw [hr]; simp
  obtain ⟨q, y, _, hy, e⟩ := h.earlier hf ht (by omega) h1 (by rw [hrt]; exact h2)
  rw [hrt] at e
  exact (h.lv_pos hf ⟨q, y, hy, e⟩).1

end
end Go.Proofs.Qxb6600345a

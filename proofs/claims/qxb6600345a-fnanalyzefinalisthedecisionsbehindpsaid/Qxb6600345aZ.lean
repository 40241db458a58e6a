import Derived.Test.Qxb6600345aW
/-! Law 7's plain part: the search's reachability is the walk's. -/
namespace Go.Proofs.Qxb6600345a
open Go.RowKit
set_option linter.unusedVariables false
set_option linter.unusedSimpArgs false

/-- what the law's own search reaches from v0 -/
def Rch (m : Nat) (L : Nat → Nat) (Z : Nat → Nat → Int) (lv rs : Nat → Int) (v0 v : Nat) : Prop :=
  ∀ P : Nat → Prop, (1 ≤ lv v0 → P v0) → (∀ x r k : Nat, P x → rs x = (r : Int) → r < m → k < L r → 1 ≤ lv (vr (Z r k)) → P (vr (Z r k))) → P v

theorem Rch.base {m : Nat} {L : Nat → Nat} {Z : Nat → Nat → Int} {lv rs : Nat → Int} {v0 : Nat} (h : 1 ≤ lv v0) : Rch m L Z lv rs v0 v0 := fun _ h0 _ => h0 h
theorem Rch.step {m : Nat} {L : Nat → Nat} {Z : Nat → Nat → Int} {lv rs : Nat → Int} {v0 : Nat} {x r k : Nat} (h : Rch m L Z lv rs v0 x) (h1 : rs x = (r : Int)) (h2 : r < m) (h3 : k < L r) (h4 : 1 ≤ lv (vr (Z r k))) : Rch m L Z lv rs v0 (vr (Z r k)) :=
  fun P h0 hs => hs x r k (h P h0 hs) h1 h2 h3 h4

/-- f holds F at the variables of the first i of the trail, else d -/
def FillOk (tr : List Int) (i : Nat) (F : Nat → Int) (d : Int) (f : Nat → Int) : Prop := ∀ v, ((∃ y ∈ tr.take i, vr y = v) → f v = F v) ∧ ((¬ ∃ y ∈ tr.take i, vr y = v) → f v = d)

theorem FillOk.zero (tr : List Int) (F : Nat → Int) (d : Int) : FillOk tr 0 F d (fun _ => d) := fun v => ⟨fun h => by simp at h, fun _ => rfl⟩
theorem FillOk.step {tr : List Int} {i : Nat} {F : Nat → Int} {d : Int} {f : Nat → Int} (h : FillOk tr i F d f) {t : Int} (ht : tr[i]? = some t) : FillOk tr (i + 1) F d (up f (vr t) (F (vr t))) := by
  intro v
  rw [List.take_add_one, ht]
  by_cases e : v = vr t
  · subst e
    rw [up_same]
    exact ⟨fun _ => rfl, fun hn => absurd ⟨t, by simp, rfl⟩ hn⟩
  · rw [up_ne _ _ e]
    have hiff : (∃ y ∈ tr.take i ++ (some t).toList, vr y = v) ↔ ∃ y ∈ tr.take i, vr y = v := by
      constructor
      · rintro ⟨y, hy, ey⟩
        rcases List.mem_append.1 hy with hy | hy
        · exact ⟨y, hy, ey⟩
        · simp at hy
          subst hy
          exact absurd ey.symm e
      · rintro ⟨y, hy, ey⟩
        exact ⟨y, List.mem_append.2 (.inl hy), ey⟩
    rw [hiff]
    exact h v

section
variable {n m : Nat} {len : Nat → Nat} {cl0 : Nat → Nat → Int} {σ : St} {p : Int} {lv rs : Nat → Int}

theorem rch_reach (hf : Form n m len cl0) (h : Base n m len cl0 σ) (hl : FillOk σ.tr σ.tr.length σ.lv 0 lv) (hr : FillOk σ.tr σ.tr.length σ.rs (-1) rs) (hp : σ.av (vr p) ≠ 0) :
    ∀ v, Rch m len cl0 lv rs (vr p) v ↔ (Reach σ len p v ∧ ∃ y ∈ σ.tr, vr y = v) := by
  have hl' : ∀ v, ((∃ y ∈ σ.tr, vr y = v) → lv v = σ.lv v) ∧ ((¬ ∃ y ∈ σ.tr, vr y = v) → lv v = 0) := fun v => by have := hl v; rwa [List.take_length] at this
  have hr' : ∀ v, ((∃ y ∈ σ.tr, vr y = v) → rs v = σ.rs v) ∧ ((¬ ∃ y ∈ σ.tr, vr y = v) → rs v = -1) := fun v => by have := hr v; rwa [List.take_length] at this
  have hpos : ∀ v, (∃ y ∈ σ.tr, vr y = v) → 1 ≤ lv v := fun v hv => by
    rw [(hl' v).1 hv]
    obtain ⟨y, hy, e⟩ := hv
    obtain ⟨k, hk⟩ := List.mem_iff_getElem?.1 hy
    exact (h.lv_pos hf ⟨k, y, hk, e⟩).1
  have hon : ∀ v, 1 ≤ lv v → ∃ y ∈ σ.tr, vr y = v := fun v hv => Classical.byContradiction fun hn => by
    have := (hl' v).2 hn
    omega
  intro v
  constructor
  · intro hv
    refine hv (fun v => Reach σ len p v ∧ ∃ y ∈ σ.tr, vr y = v) (fun h0 => ⟨Reach.base, hon _ h0⟩) ?_
    · intro x r k ih hrs hrm hk hlv
      obtain ⟨hre, t, ht, ex⟩ := ih
      refine ⟨?_, hon _ hlv⟩
      have e1 : σ.rs (vr t) = (r : Int) := by
        rw [ex, ← (hr' x).1 ⟨t, ht, ex⟩]
        exact hrs
      obtain ⟨q, hq, e2⟩ := h.cls.sup r hrm k hk
      obtain ⟨kk, hkk⟩ := List.mem_iff_getElem?.1 ht
      rcases h.rsn kk t hkk with e3 | ⟨_, _, h3, _⟩
      · omega
      · rw [e1, Int.toNat_natCast] at h3
        rw [e2]
        by_cases e0 : q = 0
        · rw [e0, h3, ex]; exact hre
        · have := Reach.step (σ := σ) (len := len) (p := p) (t := t) (j := q) (by rw [ex]; exact hre) ht (by omega) (by omega) (by rw [e1, Int.toNat_natCast]; exact hq)
          rw [e1, Int.toNat_natCast] at this
          exact this
  · rintro ⟨hv, hon'⟩
    clear hon'
    refine hv (fun v => Rch m len cl0 lv rs (vr p) v) ?_ ?_
    · obtain ⟨t, ht, e⟩ := h.tcov _ hp
      exact Rch.base (hpos _ ⟨t, ht, e⟩)
    · intro t j ih ht h0 h1 h2
      obtain ⟨kk, hkk⟩ := List.mem_iff_getElem?.1 ht
      obtain ⟨r, hr0⟩ := Int.eq_ofNat_of_zero_le h0
      rcases h.rsr hkk with e | ⟨_, hrm⟩
      · omega
      · obtain ⟨q, y, _, hy, ey⟩ := h.earlier hf hkk h0 h1 h2
        rw [hr0, Int.toNat_natCast] at h2 ey ⊢
        have hrm' : r < m := by omega
        obtain ⟨k, hk, e2⟩ := h.cls.sub r hrm' j h2
        have hlvv : 1 ≤ lv (vr (σ.cl r j)) := hpos _ ⟨y, List.mem_of_getElem? hy, ey⟩
        rw [e2] at hlvv ⊢
        exact Rch.step ih (by rw [(hr' _).1 ⟨t, ht, rfl⟩]; exact hr0) hrm' hk hlvv
end

/-! ### The search -/

/-- how many of the first n are not visited -/
def left (vis : Nat → Bool) : Nat → Nat
  | 0 => 0
  | n + 1 => left vis n + if vis n then 0 else 1

theorem left_le (vis : Nat → Bool) : ∀ n, left vis n ≤ n
  | 0 => Nat.le_refl _
  | n + 1 => by
    have := left_le vis n
    unfold left
    split <;> omega

theorem left_up_ge (vis : Nat → Bool) (x : Nat) : ∀ n, n ≤ x → left (up vis x true) n = left vis n
  | 0, _ => rfl
  | n + 1, h => by
    unfold left
    rw [left_up_ge vis x n (by omega), up_ne _ _ (by omega)]

theorem left_up (vis : Nat → Bool) (x : Nat) (hx : vis x = false) : ∀ n, x < n → left (up vis x true) n + 1 = left vis n
  | 0, h => by omega
  | n + 1, h => by
    unfold left
    by_cases e : x = n
    · subst e
      rw [left_up_ge vis x x (Nat.le_refl _), up_same, hx]
      simp
    · have := left_up vis x hx n (by omega)
      rw [up_ne _ _ (fun e2 => e e2.symm)]
      omega

/-- the search's state: visited, and the stack -/
structure Srch (n m : Nat) (L : Nat → Nat) (Z : Nat → Nat → Int) (lv rs : Nat → Int) (v0 : Nat) (vis : Nat → Bool) (st : List Nat) : Prop where
  stk : ∀ x ∈ st, x < n ∧ Rch m L Z lv rs v0 x
  ok : ∀ x, vis x = true → Rch m L Z lv rs v0 x
  cls : ∀ x r k, vis x = true → rs x = ((r : Nat) : Int) → r < m → k < L r → 1 ≤ lv (vr (Z r k)) → vis (vr (Z r k)) = true ∨ vr (Z r k) ∈ st
  bas : 1 ≤ lv v0 → vis v0 = true ∨ v0 ∈ st

section
variable {n m : Nat} {L : Nat → Nat} {Z : Nat → Nat → Int} {lv rs : Nat → Int} {v0 : Nat} {vis : Nat → Bool} {st : List Nat}

theorem Srch.done (h : Srch n m L Z lv rs v0 vis []) (x : Nat) : vis x = true ↔ Rch m L Z lv rs v0 x := by
  refine ⟨h.ok x, fun hx => ?_⟩
  refine hx (fun x => vis x = true) (fun h0 => ?_) (fun x r k ih hrs hrm hk hlv => ?_)
  · rcases h.bas h0 with e | e
    · exact e
    · simp at e
  · rcases h.cls _ _ _ ih hrs hrm hk hlv with e | e
    · exact e
    · simp at e

theorem Srch.drop {x : Nat} (h : Srch n m L Z lv rs v0 vis (st ++ [x])) (hx : vis x = true) : Srch n m L Z lv rs v0 vis st := by
  refine ⟨fun y hy => h.stk y (by simp [hy]), h.ok, fun y r k h1 h2 h3 h4 h5 => ?_, fun h1 => ?_⟩
  · rcases h.cls y r k h1 h2 h3 h4 h5 with e | e
    · exact .inl e
    · rcases List.mem_append.1 e with e | e
      · exact .inr e
      · simp at e; rw [e]; exact .inl hx
  · rcases h.bas h1 with e | e
    · exact .inl e
    · rcases List.mem_append.1 e with e | e
      · exact .inr e
      · simp at e; rw [e]; exact .inl hx

/-- while x's reason is gone through: what of it is covered -/
structure Part (n m : Nat) (L : Nat → Nat) (Z : Nat → Nat → Int) (lv rs : Nat → Int) (v0 : Nat) (vis : Nat → Bool) (x r kk : Nat) (st : List Nat) : Prop where
  stk : ∀ y ∈ st, y < n ∧ Rch m L Z lv rs v0 y
  ok : ∀ y, vis y = true → Rch m L Z lv rs v0 y
  vx : vis x = true
  cls : ∀ y r k, y ≠ x → vis y = true → rs y = ((r : Nat) : Int) → r < m → k < L r → 1 ≤ lv (vr (Z r k)) → vis (vr (Z r k)) = true ∨ vr (Z r k) ∈ st
  own : ∀ k, k < kk → 1 ≤ lv (vr (Z r k)) → vis (vr (Z r k)) = true ∨ vr (Z r k) ∈ st
  bas : 1 ≤ lv v0 → vis v0 = true ∨ v0 ∈ st

theorem up_true {vis : Nat → Bool} {x y : Nat} (h : vis y = true) : up vis x true y = true := by
  by_cases e : y = x
  · rw [e, up_same]
  · rw [up_ne _ _ e]; exact h

theorem Srch.enter {x : Nat} (h : Srch n m L Z lv rs v0 vis (st ++ [x])) (r : Nat) : Part n m L Z lv rs v0 (up vis x true) x r 0 st := by
  refine ⟨fun y hy => h.stk y (by simp [hy]), fun y hy => ?_, up_same _ _ _, fun y r k hne h1 h2 h3 h4 h5 => ?_, fun k hk => by omega, fun h1 => ?_⟩
  · by_cases e : y = x
    · rw [e]; exact (h.stk x (by simp)).2
    · rw [up_ne _ _ e] at hy; exact h.ok y hy
  · rw [up_ne _ _ hne] at h1
    rcases h.cls y r k h1 h2 h3 h4 h5 with e | e
    · exact .inl (up_true e)
    · rcases List.mem_append.1 e with e | e
      · exact .inr e
      · simp at e; rw [e]; exact .inl (up_same _ _ _)
  · rcases h.bas h1 with e | e
    · exact .inl (up_true e)
    · rcases List.mem_append.1 e with e | e
      · exact .inr e
      · simp at e; rw [e]; exact .inl (up_same _ _ _)

/-- x has no reason among the clauses -/
theorem Part.none {x r : Nat} (h : Part n m L Z lv rs v0 vis x r 0 st) (hr : ∀ r : Nat, rs x = (r : Int) → ¬ r < m) : Srch n m L Z lv rs v0 vis st := by
  refine ⟨h.stk, h.ok, fun y r k h1 h2 h3 h4 h5 => ?_, h.bas⟩
  by_cases e : y = x
  · subst e; exact absurd h3 (hr r h2)
  · exact h.cls y r k e h1 h2 h3 h4 h5

theorem Part.all {x r : Nat} (h : Part n m L Z lv rs v0 vis x r (L r) st) (hr : rs x = (r : Int)) : Srch n m L Z lv rs v0 vis st := by
  refine ⟨h.stk, h.ok, fun y r' k h1 h2 h3 h4 h5 => ?_, h.bas⟩
  by_cases e : y = x
  · subst e
    obtain rfl : r' = r := by omega
    exact h.own k h4 h5
  · exact h.cls y r' k e h1 h2 h3 h4 h5

theorem Part.skip {x r kk : Nat} (h : Part n m L Z lv rs v0 vis x r kk st) (hs : vr (Z r kk) = x ∨ vis (vr (Z r kk)) = true ∨ lv (vr (Z r kk)) < 1) : Part n m L Z lv rs v0 vis x r (kk + 1) st := by
  refine { h with own := fun k hk hlv => ?_ }
  by_cases e : k = kk
  · subst e
    rcases hs with e | e | e
    · rw [e]; exact .inl h.vx
    · exact .inl e
    · omega
  · exact h.own k (by omega) hlv

theorem Part.push {x r kk : Nat} (h : Part n m L Z lv rs v0 vis x r kk st) (hr : rs x = (r : Int)) (hrm : r < m) (hk : kk < L r) (hl : 1 ≤ lv (vr (Z r kk))) (hn : vr (Z r kk) < n) : Part n m L Z lv rs v0 vis x r (kk + 1) (st ++ [vr (Z r kk)]) := by
  refine ⟨fun y hy => ?_, h.ok, h.vx, fun y r' k h0 h1 h2 h3 h4 h5 => ?_, fun k hk' hlv => ?_, fun h1 => ?_⟩
  · rcases List.mem_append.1 hy with hy | hy
    · exact h.stk y hy
    · simp at hy
      rw [hy]
      exact ⟨hn, Rch.step (h.ok x h.vx) hr hrm hk hl⟩
  · rcases h.cls y r' k h0 h1 h2 h3 h4 h5 with e | e
    · exact .inl e
    · exact .inr (by simp [e])
  · by_cases e : k = kk
    · subst e; exact .inr (by simp)
    · rcases h.own k (by omega) hlv with e | e
      · exact .inl e
      · exact .inr (by simp [e])
  · rcases h.bas h1 with e | e
    · exact .inl e
    · exact .inr (by simp [e])
end
end Go.Proofs.Qxb6600345a

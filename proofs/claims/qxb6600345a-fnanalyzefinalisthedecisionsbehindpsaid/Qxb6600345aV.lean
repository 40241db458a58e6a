import Derived.Test.Qxb6600345aU
/-! The trail, told plainly. -/
namespace Go.Proofs.Qxb6600345a
open Go.RowKit
set_option linter.unusedVariables false
set_option linter.unusedSimpArgs false

section
variable {n m : Nat} {len : Nat → Nat} {cl0 : Nat → Nat → Int} {σ : St}

theorem decs_step {tr : List Int} {rs : Nat → Int} {k : Nat} {t : Int} (h : tr[k]? = some t) : decs tr rs (k + 1) = decs tr rs k + if rs (vr t) = -1 then 1 else 0 := by
  unfold decs
  rw [List.take_add_one, h]
  simp only [Option.toList, List.filter_append, List.length_append]
  by_cases e : rs (vr t) = -1 <;> simp [e]

theorem decs_mono {tr : List Int} {rs : Nat → Int} {k : Nat} (h : k < tr.length) : decs tr rs k ≤ decs tr rs (k + 1) := by
  rw [decs_step (List.getElem?_eq_getElem h)]
  omega

theorem decs_le_k (tr : List Int) (rs : Nat → Int) (k : Nat) : decs tr rs k ≤ k := by
  unfold decs
  exact Nat.le_trans (List.length_filter_le _ _) (by simp; omega)

/-- the first on the trail was decided -/
theorem decs_pos (hf : Form n m len cl0) (h : Base n m len cl0 σ) : ∀ (k : Nat), k < σ.tr.length → 1 ≤ decs σ.tr σ.rs (k + 1)
  | 0, hk => by
    have ht := List.getElem?_eq_getElem hk
    rw [decs_step ht]
    rcases h.rsn 0 _ ht with e | ⟨h1, h2, h3, h4⟩
    · rw [if_pos e]; omega
    · have := h4 1 (by omega) (by have := hf.l2 (σ.rs (vr σ.tr[0])).toNat (by omega); omega)
      simp at this
  | k + 1, hk => by
    have h1 := decs_pos hf h k (by omega)
    have h2 := decs_mono (rs := σ.rs) (k := k + 1) hk
    omega

theorem Base.fresh (h : Base n m len cl0 σ) {k : Nat} {t : Int} (ht : σ.tr[k]? = some t) : ¬ ∃ y ∈ σ.tr.take k, vr y = vr t := by
  rintro ⟨y, hy, e⟩
  obtain ⟨q, hq⟩ := List.mem_iff_getElem?.1 hy
  rw [List.getElem?_take] at hq
  split at hq
  · rename_i hqk
    have h1 : (σ.tr.map vr)[q]? = some (vr y) := by rw [List.getElem?_map, hq]; rfl
    have h2 : (σ.tr.map vr)[k]? = some (vr t) := by rw [List.getElem?_map, ht]; rfl
    rw [e] at h1
    have hql : q < (σ.tr.map vr).length := (List.getElem?_eq_some_iff.1 h1).1
    have := (List.getElem?_inj hql h.tnd).1 (h1.trans h2.symm)
    omega
  · cases hq

theorem Base.rsr (h : Base n m len cl0 σ) {k : Nat} {t : Int} (ht : σ.tr[k]? = some t) : σ.rs (vr t) = -1 ∨ (0 ≤ σ.rs (vr t) ∧ σ.rs (vr t) < (m : Int)) := by
  rcases h.rsn k t ht with e | ⟨h1, h2, _⟩
  · exact .inl e
  · exact .inr ⟨h1, h2⟩

theorem Base.given (hf : Form n m len cl0) (h : Base n m len cl0 σ) {k : Nat} {t : Int} (ht : σ.tr[k]? = some t) {r : Nat} (hr : σ.rs (vr t) = (r : Int)) :
    (∃ j, j < len r ∧ cl0 r j = t) ∧ ∀ j, j < len r → cl0 r j ≠ t → (∃ y ∈ σ.tr.take k, vr y = vr (cl0 r j)) ∧ σ.val (cl0 r j) = 2 := by
  rcases h.rsn k t ht with e | ⟨h1, h2, h3, h4⟩
  · omega
  · rw [hr] at h2 h3 h4
    rw [Int.toNat_natCast] at h3 h4
    have hrm : r < m := by omega
    have hl := hf.l2 r hrm
    refine ⟨?_, fun j hj hne => ?_⟩
    · obtain ⟨j, hj, e⟩ := h.cls.sub r hrm 0 (by omega)
      exact ⟨j, hj, by rw [← e]; exact h3⟩
    · obtain ⟨q, hq, e⟩ := h.cls.sup r hrm j hj
      rw [e] at hne ⊢
      have hq0 : q ≠ 0 := fun e0 => hne (by rw [e0]; exact h3)
      have hm := h4 q (by omega) hq
      have hg := (h.cls.rng hf hrm hq).1
      exact ⟨⟨_, hm, vr_ng hg⟩, h.val_of_mem_ng hg (List.mem_of_mem_take hm)⟩

/-- the law's array of places, after i of the trail -/
def PosOk (tr : List Int) (i : Nat) (f : Nat → Int) : Prop := ∀ v, 0 ≤ f v ↔ ∃ y ∈ tr.take i, vr y = v

theorem PosOk.zero (tr : List Int) : PosOk tr 0 (fun _ => -1) := fun v => by simp

theorem PosOk.step {tr : List Int} {i : Nat} {f : Nat → Int} (h : PosOk tr i f) {t : Int} (ht : tr[i]? = some t) : PosOk tr (i + 1) (up f (vr t) (i : Int)) := by
  intro v
  rw [List.take_add_one, ht]
  by_cases e : v = vr t
  · subst e
    rw [up_same]
    exact ⟨fun _ => ⟨t, by simp, rfl⟩, fun _ => by omega⟩
  · rw [up_ne _ _ e, h v]
    constructor
    · rintro ⟨y, hy, ey⟩
      exact ⟨y, by simp [hy], ey⟩
    · rintro ⟨y, hy, ey⟩
      rcases List.mem_append.1 hy with hy | hy
      · exact ⟨y, hy, ey⟩
      · simp at hy
        subst hy
        exact absurd ey.symm e

theorem PosOk.all (h : Base n m len cl0 σ) {f : Nat → Int} (hp : PosOk σ.tr σ.tr.length f) (v : Nat) : σ.av v = 0 ↔ f v < 0 := by
  have := hp v
  rw [List.take_length] at this
  constructor
  · intro e
    exact Int.not_le.1 fun hle => by
      obtain ⟨y, hy, rfl⟩ := this.1 hle
      exact h.vne hy e
  · intro e
    exact Classical.byContradiction fun hne => by
      have := this.2 (h.tcov v hne)
      omega
end
end Go.Proofs.Qxb6600345a

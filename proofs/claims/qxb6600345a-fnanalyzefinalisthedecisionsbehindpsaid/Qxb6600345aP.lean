import Derived.Test.Qxb6600345aG
import Derived.Test.Qxb6600345aN
import Derived.Test.Qxb6600345aO
/-! The steps that the laws share. -/
namespace Go.Proofs.Qxb6600345a
open Go.RowKit
set_option linter.unusedVariables false
set_option linter.unusedSimpArgs false

/-! ### The plain part: what is implied lies in every closed assignment -/
section
variable {n m : Nat} {len : Nat → Nat} {cl0 : Nat → Nat → Int} {σ : St}

theorem Base.vne (h : Base n m len cl0 σ) {t : Int} (ht : t ∈ σ.tr) : σ.av (vr t) ≠ 0 := fun e => by
  have h1 := h.ttrue t ht
  have := (lval_zero h.av (l := t)).2 e
  rw [val_eq] at h1
  omega

/-- what the decisions imply lies in every closed assignment in which they lie -/
theorem trail_in (hf : Form n m len cl0) (h : Base n m len cl0 σ) {b : Nat → Int} (hb : Vals b) (hc : Closed m len cl0 b) (hd : ∀ t ∈ σ.tr, σ.rs (vr t) = -1 → lval b t = 1) : ∀ (k : Nat) (t : Int), σ.tr[k]? = some t → lval b t = 1 := by
  intro k
  induction k using Nat.strongRecOn with
  | _ k ih =>
    intro t ht
    rcases h.rsn k t ht with e | ⟨h1, h2, h3, h4⟩
    · exact hd t (List.mem_of_getElem? ht) e
    · have hr : (σ.rs (vr t)).toNat < m := by omega
      generalize (σ.rs (vr t)).toNat = r at *
      have hfalse : ∀ j, 1 ≤ j → j < len r → lval b (σ.cl r j) = 2 := fun j hj1 hj2 => by
        have hm := h4 j hj1 hj2
        obtain ⟨q, hq⟩ := List.mem_iff_getElem?.1 hm
        rw [List.getElem?_take] at hq
        split at hq
        · rename_i hqk
          have := ih q hqk _ hq
          exact ((lval_ng hb (h.cls.rng hf hr hj2).1).1).1 this
        · cases hq
      rcases hc r hr with ⟨q, hq, hv⟩ | ⟨j, q, hj, hq, hne, hv1, hv2⟩
      · obtain ⟨q', hq', e⟩ := h.cls.sup r hr q hq
        rw [e] at hv
        by_cases e0 : q' = 0
        · rw [e0, h3] at hv; exact hv
        · have := hfalse q' (by omega) hq'; omega
      · exfalso
        obtain ⟨j', hj', ej⟩ := h.cls.sup r hr j hj
        obtain ⟨q', hq', eq⟩ := h.cls.sup r hr q hq
        rw [ej] at hv1
        rw [eq] at hv2
        by_cases e0 : j' = 0
        · by_cases e1 : q' = 0
          · subst e0; subst e1
            exact hne (hf.inj r hr j q hj hq (by rw [ej, eq]))
          · exact hv2 (hfalse q' (by omega) hq')
        · exact hv1 (hfalse j' (by omega) hj')

theorem below_of_trail (h : Base n m len cl0 σ) {b : Nat → Int} (hb : Vals b) (ht : ∀ t ∈ σ.tr, lval b t = 1) : Below2 σ.av b := by
  intro v hv
  obtain ⟨t, htm, rfl⟩ := h.tcov v hv
  have h1 := ht t htm
  have h2 := h.ttrue t htm
  have h3 := hb (vr t)
  have h4 := h.av (vr t)
  unfold lval lx at h1
  rw [val_eq] at h2
  unfold lval lx at h2
  split at h1 <;> split at h2 <;> omega

theorem Closed.not_false {b : Nat → Int} (hc : Closed m len cl0 b) {i : Nat} (hi : i < m) (h : ∀ k, k < len i → lval b (cl0 i k) = 2) : False := by
  rcases hc i hi with ⟨k, hk, e⟩ | ⟨j, k, hj, hk, _, e, _⟩
  · have := h k hk; omega
  · exact e (h j hj)

/-- the old assignment and the decision, closed under the clauses -/
theorem ext_in (hf : Form n m len cl0) {σ1 σ2 : St} (h1 : Base n m len cl0 σ1) (h2 : Base n m len cl0 σ2) (he : Ext σ1 σ2) {b : Nat → Int} (hb : Vals b) (hc : Closed m len cl0 b) (hl : Below2 σ1.av b) : Below2 σ2.av b := by
  refine below_of_trail h2 hb fun t ht => ?_
  obtain ⟨k, hk⟩ := List.mem_iff_getElem?.1 ht
  refine trail_in hf h2 hb hc (fun t ht hr => ?_) k t hk
  obtain ⟨ys, hy, hys⟩ := he.tr
  rw [hy] at ht
  rcases List.mem_append.1 ht with ht | ht
  · rw [lval_below h1.av hl (by have := h1.ttrue t ht; rw [val_eq] at this; omega)]
    exact h1.ttrue t ht
  · exact absurd hr (hys t ht)

theorem Ext.below {σ1 σ2 : St} (he : Ext σ1 σ2) : Below2 σ1.av σ2.av := fun v hv => (he.old v hv).1

/-- no conflict: the naive closure has none either, and is the same -/
theorem agree_ok (hf : Form n m len cl0) {σ1 σ2 : St} (h1 : Base n m len cl0 σ1) (h2 : Base n m len cl0 σ2) (he : Ext σ1 σ2) (hw : WInv n m σ2 0 []) (hq : σ2.qh = σ2.tr.length) {A' : Nat → Int} (hn : NC m len cl0 σ1.av A') {r : Bool}
    (ht : r = true → ∃ i, i < m ∧ ∀ k, k < len i → lval A' (cl0 i k) = 2) (hfl : r = false → Closed m len cl0 A') : r = false ∧ A' = σ2.av := by
  have hc2 := closed_ok hf h2 hw hq
  have hle := hn.least σ2.av h2.av hc2 he.below
  have hr : r = false := by
    cases r with
    | false => rfl
    | true =>
      obtain ⟨i, hi, hall⟩ := ht rfl
      exact (hc2.not_false hi fun k hk => by rw [lval_below hn.vals hle (by rw [hall k hk]; decide), hall k hk]).elim
  refine ⟨hr, ?_⟩
  have hge := ext_in hf h1 h2 he hn.vals (hfl hr) hn.ext
  funext v
  by_cases e : A' v = 0
  · by_cases e2 : σ2.av v = 0
    · rw [e, e2]
    · rw [hge v e2]
  · rw [hle v e]

/-- a conflict: the naive closure has one too -/
theorem conflict_ok (hf : Form n m len cl0) {σ1 σ2 : St} (h1 : Base n m len cl0 σ1) (h2 : Base n m len cl0 σ2) (he : Ext σ1 σ2) {c : Nat} (hc : c < m) (hall : ∀ k, k < len c → σ2.val (σ2.cl c k) = 2) {A' : Nat → Int} (hn : NC m len cl0 σ1.av A') {r : Bool}
    (hfl : r = false → Closed m len cl0 A') : r = true := by
  cases r with
  | true => rfl
  | false =>
    have hge := ext_in hf h1 h2 he hn.vals (hfl rfl) hn.ext
    refine ((hfl rfl).not_false hc fun k hk => ?_).elim
    obtain ⟨k', hk', e⟩ := h2.cls.sup c hc k hk
    rw [e]
    have := hall k' hk'
    rw [val_eq] at this
    rw [lval_below h2.av hge (by rw [this]; decide), this]

theorem conflict_lits (h2 : Base n m len cl0 σ) {c : Nat} (hc : c < m) (hall : ∀ k, k < len c → σ.val (σ.cl c k) = 2) : ∀ k, k < len c → σ.val (cl0 c k) = 2 := fun k hk => by
  obtain ⟨k', hk', e⟩ := h2.cls.sup c hc k hk
  rw [e]
  exact hall k' hk'

end

/-! ### The shims -/
section
variable {n m B sb : Nat} {len : Nat → Nat} {x : Option Nat} {T : Nat → Nat} {w : World} {σ : St}

set_option maxHeartbeats 400000 in
theorem zzLit (h : Rep n m len B x T w sb σ) (l : Int) (hl : 0 ≤ l) (hl2 : l < 2 * (n : Int)) (hn : n ≤ 4096) (hav : Vals σ.av) :
    Calls Try.prog 15 #[.pointer (some ⟨sb, 0, none⟩), .int .i32 l] w fun e w' => e = .returned (.int .i8 (σ.val l)) ∧ ∃ n, w' = w.drewN n := by
  go_enter Try.func15, Try.ntmps15
  go_wp2_with (go_at_call 43; refine (litValue_val h l hl hl2 hn hav).mono ?_; rintro e w' ⟨rfl, q, rfl⟩)
  go_ret
  exact ⟨rfl, q, rfl⟩

def AsPost (n m : Nat) (len : Nat → Nat) (B : Nat) (x : Option Nat) (T : Nat → Nat) (w : World) (sb : Nat) (σ' : St) (e : Ending) (w' : World) : Prop :=
  e = .returned (.tuple #[]) ∧ ∃ T', Rep n m len B x T' w' sb σ' ∧ Grew T T' w w'

set_option maxHeartbeats 400000 in
theorem zzAssign (h : Rep n m len B x T w sb σ) (l frm : Int) (hl : 0 ≤ l) (hl2 : l < 2 * (n : Int)) (hn : n ≤ 4096) (htr : σ.tr.length ≤ 4096) (htl : σ.tl.length ≤ 4096) (hB : B ≤ w.heap.size) :
    Calls Try.prog 19 #[.pointer (some ⟨sb, 0, none⟩), .int .i32 l, .int .i32 frm] w fun e w' => AsPost n m len B x T w sb (σ.assign l frm) e w' := by
  go_enter Try.func19, Try.ntmps19
  go_wp2_with (go_at_call 45; refine (assign_rep h l frm hl hl2 hn htr htl hB).mono ?_; rintro e w' ⟨rfl, T', hrest⟩)
  go_end0
  exact ⟨rfl, T', hrest⟩

set_option maxHeartbeats 400000 in
theorem zzProp {cl0 : Nat → Nat → Int} (hf : Form n m len cl0) (h : Rep n m len B none T w sb σ) (hb : Base n m len cl0 σ) (hw : WInv n m σ 0 []) (hB : B ≤ w.heap.size) :
    Calls Try.prog 20 #[.pointer (some ⟨sb, 0, none⟩)] w fun e w' => PropPost n m len cl0 B T w sb σ e w' := by
  go_enter Try.func20, Try.ntmps20
  go_wp2_with (go_at_call 46; refine (propagate_walk hf h hb hw hB).mono ?_; rintro e w' ⟨r, σ', T', rfl, hrest⟩)
  go_ret
  exact ⟨r, σ', T', rfl, hrest⟩
end
end Go.Proofs.Qxb6600345a

import Derived.Test.Qxb6600345aY
/-! What the core alone implies. -/
namespace Go.Proofs.Qxb6600345a
open Go.RowKit
set_option linter.unusedVariables false
set_option linter.unusedSimpArgs false

set_option maxHeartbeats 400000 in
theorem zzFinal {n m B sb : Nat} {len : Nat → Nat} {cl0 : Nat → Nat → Int} {T : Nat → Nat} {w : World} {σ : St} (p : Int) {d : Nat → Bool} (Hd : Hid (Tells σ len p d)) (hf : Form n m len cl0) (h : Rep n m len B none T w sb σ) (hb : Base n m len cl0 σ) (hp0 : 0 ≤ p) (hp1 : p < 2 * (n : Int)) (hpv : σ.av (vr p) ≠ 0) (hB : B ≤ w.heap.size) :
    Calls Try.prog 39 #[.pointer (some ⟨sb, 0, none⟩), .int .i32 p] w fun e w' => AFPost n m len B T w sb σ p d e w' := by
  go_enter Try.func39, Try.ntmps39
  go_wp2_with (go_at_call 51; refine (analyzeFinal_any p Hd hf h hb hp0 hp1 hpv hB).mono ?_; rintro e w' ⟨v, rfl, hrest⟩)
  go_ret
  exact ⟨v, rfl, hrest⟩

theorem Core.cells {B0 : Nat} {T : Nat → Nat} {w : World} {v : Value} {xs : List Int} (h : Core B0 T w v xs) (hx : 0 < xs.length) :
    ∃ g cap, v = .slice (some ⟨g, 0, none⟩) xs.length cap ∧ B0 ≤ g ∧ g < w.heap.size ∧ T g = 0 ∧ ∀ (j : Nat) (l : Int), xs[j]? = some l → w.cell? ⟨g, j, none⟩ = some (.int .i32 l) := by
  rcases h.own.2 with ⟨_, h0⟩ | ⟨g, cap, cur, hv, rest⟩
  · omega
  · have hlt := h.own.lt g (by rw [hv]; rfl)
    refine ⟨g, cap, hv, hlt.1, hlt.2, h.tag g (by rw [hv]; rfl), fun j l hj => ?_⟩
    have := h.own.cells (g := g) (by rw [hv]; rfl) j (.int .i32 l) (by rw [List.getElem?_map, hj]; rfl)
    rw [Addr.add_lit] at this
    simpa using this

section
variable {n m : Nat} {len : Nat → Nat} {cl0 : Nat → Nat → Int} {σ : St} {p : Int}

/-- what lies behind p follows from the decisions behind p -/
theorem reach_in (hf : Form n m len cl0) (h : Base n m len cl0 σ) {b : Nat → Int} (hb : Vals b) (hc : Closed m len cl0 b) (hd : ∀ t ∈ σ.tr, Reach σ len p (vr t) → σ.rs (vr t) = -1 → lval b t = 1) : ∀ (k : Nat) (t : Int), σ.tr[k]? = some t → Reach σ len p (vr t) → lval b t = 1 := by
  intro k
  induction k using Nat.strongRecOn with
  | _ k ih =>
    intro t ht hre
    have hst := @Reach.step σ len p t
    rcases h.rsn k t ht with e | ⟨h1, h2, h3, h4⟩
    · exact hd t (List.mem_of_getElem? ht) hre e
    · have hr : (σ.rs (vr t)).toNat < m := by omega
      have hst : ∀ j, 1 ≤ j → j < len (σ.rs (vr t)).toNat → Reach σ len p (vr (σ.cl (σ.rs (vr t)).toNat j)) := fun j a b => hst hre (List.mem_of_getElem? ht) h1 a b
      generalize (σ.rs (vr t)).toNat = r at *
      have hfalse : ∀ j, 1 ≤ j → j < len r → lval b (σ.cl r j) = 2 := fun j hj1 hj2 => by
        obtain ⟨q, hqk, hq⟩ := mem_take (h4 j hj1 hj2)
        have hg := (h.cls.rng hf hr hj2).1
        have := ih q hqk _ hq (by rw [vr_ng hg]; exact hst j hj1 hj2)
        exact ((lval_ng hb hg).1).1 this
      rcases hc r hr with ⟨q, hq, hv⟩ | ⟨j, q, hj, hq, hne, hv1, hv2⟩
      · obtain ⟨q', hq', e⟩ := h.cls.sup r hr q hq
        rw [e] at hv
        by_cases e0 : q' = 0
        · rw [e0, h3] at hv; exact hv
        · have := hfalse q' (by omega) hq'; omega
      · exfalso
        obtain ⟨j', hj', ej⟩ := h.cls.sup r hr j hj
        obtain ⟨q', hq', eq⟩ := h.cls.sup r hr q hq
        rw [ej] at hv1
        rw [eq] at hv2
        by_cases e0 : j' = 0
        · by_cases e1 : q' = 0
          · subst e0; subst e1
            exact hne (hf.inj r hr j q hj hq (by rw [ej, eq]))
          · exact hv2 (hfalse q' (by omega) hq')
        · exact hv1 (hfalse j' (by omega) hj')

/-- the fresh solver, under the core's decisions, gives p the value it had -/
theorem core_forces (hf : Form n m len cl0) (h : Base n m len cl0 σ) (hpv : σ.av (vr p) ≠ 0) {σf : St} (hb : Base n m len cl0 σf) (hw : WInv n m σf 0 []) (hq : σf.qh = σf.tr.length) (hl : Below2 σf.av σ.av)
    {d : Nat → Bool} (hdd : Tells σ len p d) (hd : ∀ t ∈ coreOf σ d 0, σf.val t = 1) : σf.val p = σ.val p := by
  obtain ⟨t, ht, e⟩ := h.tcov _ hpv
  obtain ⟨k, hk⟩ := List.mem_iff_getElem?.1 ht
  have h1 := reach_in (p := p) hf h hb.av (closed_ok hf hb hw hq) (fun t ht hr hs => hd t ((coreOf_mem hdd).2 ⟨ht, hr, hs⟩)) k t hk (by rw [e]; exact Reach.base)
  have h2 : σf.av (vr t) ≠ 0 := fun e0 => by
    have := (lval_zero hb.av (l := t)).2 e0
    omega
  have h3 := hl _ h2
  rw [e] at h3
  rw [val_eq, val_eq]
  unfold lval
  rw [h3]

/-- a decision of the core that the fresh solver has set, is true there -/
theorem core_set (h : Base n m len cl0 σ) {σf : St} (hb : Base n m len cl0 σf) (hl : Below2 σf.av σ.av) {t : Int} (ht : t ∈ σ.tr) (hv : σf.val t ≠ 0) : σf.val t = 1 := by
  have h1 := h.ttrue t ht
  rw [val_eq] at h1 hv ⊢
  rw [← lval_below hb.av hl hv]
  exact h1

theorem below_decide (h : Base n m len cl0 σ) {σf : St} (hl : Below2 σf.av σ.av) {t : Int} (ht : t ∈ σ.tr) : Below2 (σf.level.assign t (-1)).av σ.av := by
  intro v hv
  by_cases e : v = vr t
  · subst e
    show σ.av (vr t) = up σf.av (vr t) (1 + t % 2) (vr t)
    rw [up_same]
    have h1 := h.ttrue t ht
    have h2 := h.av (vr t)
    rw [val_eq] at h1
    unfold lval lx at h1
    split at h1 <;> omega
  · have e1 : (σf.level.assign t (-1)).av v = σf.av v := up_ne _ _ e
    rw [e1] at hv ⊢
    exact hl v hv

/-- the core's decisions meet no conflict -/
theorem core_calm (hf : Form n m len cl0) (h : Base n m len cl0 σ) (hw : WInv n m σ 0 []) (hq : σ.qh = σ.tr.length) {σ1 σ2 : St} (h1 : Base n m len cl0 σ1) (h2 : Base n m len cl0 σ2) (he : Ext σ1 σ2) (hl : Below2 σ1.av σ.av) :
    Below2 σ2.av σ.av ∧ ∀ c, c < m → (∀ k, k < len c → σ2.val (σ2.cl c k) = 2) → False := by
  have hc := closed_ok hf h hw hq
  have hl2 := ext_in hf h1 h2 he h.av hc hl
  refine ⟨hl2, fun c hcm hall => hc.not_false hcm fun k hk => ?_⟩
  have := conflict_lits h2 hcm hall k hk
  rw [val_eq] at this
  rw [lval_below h2.av hl2 (by omega)]
  exact this

theorem Ext.val {σ1 σ2 : St} (he : Ext σ1 σ2) {t : Int} (hv : σ1.val t = 1) : σ2.val t = 1 := by
  have h0 : σ1.av (vr t) ≠ 0 := fun e => by
    rw [val_eq] at hv
    unfold lval lx at hv
    simp [e] at hv
  rw [val_eq] at hv ⊢
  unfold lval at hv ⊢
  rw [(he.old _ h0).1]
  exact hv
end
end Go.Proofs.Qxb6600345a

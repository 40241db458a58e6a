import Derived.Test.Qxb6600345aE
/-! A region that draws its order, reads what its last operation writes, and calls functions that only reckon: under a condition S on the world, which every operation but the last (number z) keeps, the reads and such calls may be taken first. -/
namespace Go.Proofs.Qxb6600345a
open Go.RowKit
section
variable {P : Program} {ops : Array Oper} {Q : Exit → Act → World → Prop} {md : Region.Mode} {S : World → Prop} {z : Nat}

/-- o yields v, in every world that meets S, and leaves that world: by itself, or by a call. -/
def YC (P : Program) (ops : Array Oper) (S : World → Prop) (o : Oper) (v : Value) (a : Act) : Prop :=
  Region.wanted o (yielded ops a.tmps) = true ∧ ∀ w, S w → (execOp a.eval o).run P w = .ok (.value v) w ∨
    ∃ f args, (execOp a.eval o).run P w = .ok (.enter f args) w ∧ Calls P f args w fun e w' => e = .returned v ∧ w' = w

theorem YC.step {i : Nat} {o : Oper} {v : Value} {a : Act} (hi : ops[i]? = some o) (hy : YC P ops S o v a) {K : Act → World → Prop} {w : World} (hS : S w) (h : K (a.put o.dst v) w) : wpOp P ops Q i K a w := by
  unfold wpOp
  simp only [hi, hy.1, if_true]
  refine .inl ?_
  unfold Oper.wp
  rcases hy.2 w hS with e | ⟨f, args, e, hc⟩
  · rw [e]; exact h
  · rw [e]
    refine hc.mono fun e' w' h' => ?_
    obtain ⟨rfl, rfl⟩ := h'
    exact h

theorem YC.put {o oj : Oper} {v u : Value} {a : Act} (hy : YC P ops S o v a) (hs : ∀ cs b, o.op ≠ .select cs b) (hd : ∀ d, oj.dst = some d → d ∉ o.looksAt ops) : YC P ops S o v (a.put oj.dst u) := by
  refine ⟨by rw [wanted_put o a oj.dst u hd]; exact hy.1, ?_⟩
  rw [execOp_put o hs a oj.dst u hd]
  exact hy.2

theorem wpOp_YC {j : Nat} {oi oj : Oper} {v : Value} (hj : ops[j]? = some oj) (hap : oi.apart ops oj = true)
    (hsi : ∀ cs b, oi.op ≠ .select cs b) (hsj : ∀ cs b, oj.op ≠ .select cs b)
    (hQ : ∀ c a w, Q (.panic c) (a.put oi.dst v) w → Q (.panic c) a w) {K : Act → World → Prop} {a : Act} {w : World}
    (hy : YC P ops S oi v a) (h : wpOp P ops Q j K (a.put oi.dst v) w) :
    wpOp P ops Q j (fun a' w' => YC P ops S oi v a' ∧ K (a'.put oi.dst v) w') a w := by
  obtain ⟨h1, h2, h3⟩ := Oper.apart_spec hap
  have kp : ∀ u, YC P ops S oi v (a.put oj.dst u) := fun u => hy.put hsi h3
  have cm : ∀ u, (a.put oi.dst v).put oj.dst u = (a.put oj.dst u).put oi.dst v := fun u => Act.put_comm a v u h2
  unfold wpOp at h ⊢
  simp only [hj] at h ⊢
  rw [wanted_put oj a oi.dst v h1] at h
  by_cases hw : Region.wanted oj (yielded ops a.tmps) = true
  · rw [if_pos hw] at h ⊢
    have hx : execOp (a.put oi.dst v).eval oj = execOp a.eval oj := execOp_put oj hsj a oi.dst v h1
    rcases h with h | ⟨ha, hl⟩
    · left
      unfold Oper.wp at h ⊢
      rw [hx] at h
      generalize (execOp a.eval oj).run P w = r at h ⊢
      match r, h with
      | .ok (.value u) w', h => exact ⟨kp u, by rw [← cm u]; exact h⟩
      | .ok .skip w', h => exact ⟨kp _, by rw [← cm]; exact h⟩
      | .ok (.defer d) w', h =>
        have hd' : YC P ops S oi v { a with defers := d :: a.defers } := hy
        refine ⟨hd'.put hsi h3, ?_⟩
        rw [← Act.put_comm _ v undef h2, ← Act.put_defers]
        exact h
      | .ok (.enter f args) w', h =>
        refine Calls.mono h fun e w'' he => ?_
        match e, he with
        | .returned u, he => exact ⟨kp u, by rw [← cm u]; exact he⟩
        | .panicked c, he => exact hQ _ _ _ he
        | .outgrown, he => exact he
      | .ok (.row row args) w', h => exact Rows.mono h fun u w'' he => ⟨kp u, by rw [← cm u]; exact he⟩
      | .halt (.panic u) w', h => exact hQ _ _ _ h
    · right
      refine ⟨?_, hl⟩
      unfold Oper.asks at ha ⊢
      rw [hx] at ha
      exact ha
  · rw [if_neg hw] at h ⊢
    exact ⟨kp _, by rw [← cm]; exact h⟩

/-- Whatever order is picked from here on; S holds behind every operation but number z. -/
def wpAnyZ (P : Program) (md : Region.Mode) (ops : Array Oper) (Q : Exit → Act → World → Prop) (S : World → Prop) (z : Nat) : Nat → Array Bool → Act → World → Prop
  | 0, listed, a, w => Region.ready md ops listed = [] ∧ Q .normal a w
  | fuel + 1, listed, a, w =>
    (Region.ready md ops listed = [] → Q .normal a w) ∧
    ∀ i ∈ Region.ready md ops listed, wpOp P ops Q i (fun a' w' => (i = z ∨ S w') ∧ wpAnyZ P md ops Q S z fuel (listed.setIfInBounds i true) a' w') a w

theorem wpAny_of_Z : ∀ (fuel : Nat) (listed : Array Bool) (a : Act) (w : World), wpAnyZ P md ops Q S z fuel listed a w → wpAny P md ops Q fuel listed a w
  | 0, _, _, _, h => h
  | fuel + 1, _, _, _, h => ⟨h.1, fun i hi => wpOp_mono (fun a' w' h' => wpAny_of_Z fuel _ a' w' h'.2) (h.2 i hi)⟩

theorem wp_region_Z {id : Nat} {a : Act} {w : World} (S : World → Prop) (z : Nat) (hm : P.follows .mixedOrders = true)
    (h : wpAnyZ P .any ops Q S z ops.size (Array.replicate ops.size false) a w.drew) : (Code.region id ops true).wp P Q a w :=
  wp_region_any hm (wpAny_of_Z _ _ _ _ h)

theorem wpAnyZ_first {i : Nat} {oi oz : Oper} {v : Value} (hi : ops[i]? = some oi) (hz : ops[z]? = some oz) (hzi : ∃ e ∈ oz.after, Region.binds md e = true ∧ e.on = i)
    (hsel : ∀ (j : Nat) (o : Oper) cs b, ops[j]? = some o → o.op ≠ .select cs b)
    (hQ : ∀ c a w, Q (.panic c) (a.put oi.dst v) w → Q (.panic c) a w) :
    ∀ (fuel : Nat) (listed : Array Bool) (a : Act) (w : World),
      (∀ j oj, ops[j]? = some oj → j ≠ i → listed.getD j true = false → (∀ e ∈ oj.after, Region.binds md e = true → e.on ≠ i) → oi.apart ops oj = true) →
      i ∈ Region.ready md ops listed → YC P ops S oi v a → S w →
      wpAnyZ P md ops Q S z fuel (listed.setIfInBounds i true) (a.put oi.dst v) w → wpAnyZ P md ops Q S z (fuel + 1) listed a w
  | 0, listed, a, w, _, hr, hy, hS, H => by
    refine ⟨fun h => (by rw [h] at hr; cases hr), fun j hj => ?_⟩
    by_cases hji : j = i
    · subst hji; exact hy.step hi hS ⟨.inr hS, H⟩
    · have h1 := ready_mono hj hji
      rw [H.1] at h1
      cases h1
  | fuel + 1, listed, a, w, hfree, hr, hy, hS, H => by
    refine ⟨fun h => (by rw [h] at hr; cases hr), fun j hj => ?_⟩
    by_cases hji : j = i
    · subst hji; exact hy.step hi hS ⟨.inr hS, H⟩
    · obtain ⟨hjun, oj, hoj, hall⟩ := mem_ready.1 hj
      have hnot : ∀ e ∈ oj.after, Region.binds md e = true → e.on ≠ i := fun e he hb heq => by
        have h1 := hall e he hb
        have h0 := (mem_ready.1 hr).1
        rw [heq] at h1
        rcases Nat.lt_or_ge i listed.size with h' | h'
        · simp [h'] at h0 h1
          rw [h0] at h1
          cases h1
        · simp [Array.getElem?_eq_none h'] at h1
      have hjz : j ≠ z := by
        rintro rfl
        obtain ⟨e, he, hb, hon⟩ := hzi
        rw [hoj] at hz
        obtain rfl := Option.some.inj hz
        exact hnot e he hb hon
      have h2 := wpOp_YC hoj (hfree j oj hoj hji hjun hnot) (fun cs b => hsel i oi cs b hi) (fun cs b => hsel j oj cs b hoj) hQ hy (H.2 j (ready_mono hj hji))
      refine wpOp_mono (fun a' w' h3 => ?_) h2
      obtain ⟨h4, h5, h6⟩ := h3
      have hS' : S w' := h5.resolve_left hjz
      refine ⟨.inr hS', wpAnyZ_first hi hz hzi hsel hQ fuel _ a' w' ?_ (ready_mono hr (Ne.symm hji)) h4 hS' ?_⟩
      · intro k ok hk hki hun hno
        refine hfree k ok hk hki ?_ hno
        by_cases hjk : j = k
        · subst hjk; exact hjun
        · rw [getD_set_ne true hjk] at hun; exact hun
      · rw [Array.setIfInBounds_comm _ _ hji]
        exact h6

/-- does z wait for i? -/
def waitsFor (md : Region.Mode) (ops : Array Oper) (z i : Nat) : Bool :=
  match ops[z]? with
  | some oz => oz.after.any fun e => Region.binds md e && e.on == i
  | none => false

theorem wpAnyZ_take {i : Nat} {oi : Oper} {v : Value} {fuel : Nat} {listed : Array Bool} {a : Act} {w : World} (hi : ops[i]? = some oi)
    (hs : Region.noSelect ops = true) (hf : Region.free md ops listed i = true) (hr : (Region.ready md ops listed).contains i = true) (hzw : waitsFor md ops z i = true)
    (hQ : ∀ c a w, Q (.panic c) (a.put oi.dst v) w → Q (.panic c) a w) (hy : YC P ops S oi v a) (hS : S w)
    (h : wpAnyZ P md ops Q S z fuel (listed.setIfInBounds i true) (a.put oi.dst v) w) : wpAnyZ P md ops Q S z (fuel + 1) listed a w := by
  unfold waitsFor at hzw
  split at hzw
  · rename_i oz hoz
    obtain ⟨e, he, hb⟩ := Array.any_eq_true'.1 hzw
    simp only [Bool.and_eq_true, beq_iff_eq] at hb
    exact wpAnyZ_first hi hoz ⟨e, he, hb.1, hb.2⟩ (Region.noSelect_spec hs) hQ fuel listed a w (Region.free_spec hi hf) (by simpa using hr) hy hS h
  · cases hzw

/-- one alone may come up, and it is not the last -/
theorem wpAnyZ_one {i : Nat} {o : Oper} {fuel : Nat} {listed : Array Bool} {a : Act} {w : World} (hi : ops[i]? = some o) (hg : o.guard = none) (hr : Region.ready md ops listed = [i])
    (h : ∀ K : Act → World → Prop, (∀ a' w', S w' → wpAnyZ P md ops Q S z fuel (listed.setIfInBounds i true) a' w' → K a' w') → o.wp P a w K Q) : wpAnyZ P md ops Q S z (fuel + 1) listed a w := by
  refine ⟨fun h0 => (by rw [hr] at h0; cases h0), fun j hj => ?_⟩
  rw [hr] at hj
  simp only [List.mem_cons, List.not_mem_nil, or_false] at hj
  subst hj
  unfold wpOp
  simp only [hi, Region.wanted, hg, if_true]
  exact .inl (h _ fun a' w' h1 h2 => ⟨.inr h1, h2⟩)

/-- the last -/
theorem wpAnyZ_end {o : Oper} {fuel : Nat} {listed : Array Bool} {a : Act} {w : World} (hi : ops[z]? = some o) (hg : o.guard = none) (hr : Region.ready md ops listed = [z])
    (hr2 : Region.ready md ops (listed.setIfInBounds z true) = [])
    (h : ∀ K : Act → World → Prop, (∀ a' w', Q .normal a' w' → K a' w') → o.wp P a w K Q) : wpAnyZ P md ops Q S z (fuel + 1) listed a w := by
  refine ⟨fun h0 => (by rw [hr] at h0; cases h0), fun j hj => ?_⟩
  rw [hr] at hj
  simp only [List.mem_cons, List.not_mem_nil, or_false] at hj
  subst hj
  unfold wpOp
  simp only [hi, Region.wanted, hg, if_true]
  refine .inl (h _ fun a' w' h' => ⟨.inl (by simp), ?_⟩)
  cases fuel with
  | zero => exact ⟨hr2, h'⟩
  | succ f => exact ⟨fun _ => h', by rw [hr2]; simp⟩

end
end Go.Proofs.Qxb6600345a

import Derived.Test.Qxb6600403aL5
import Derived.ArgAppend
namespace Go.Proofs.Qxb6600403a
open Go.RowKit
set_option linter.unusedVariables false
set_option linter.unusedSimpArgs false

/-- a list of bytes of one's own, in blocks from B on: nil where it is empty -/
structure OwnB (B : Nat) (w : World) (v : Value) (zs : List Int) : Prop where
  own : w.ownsRow B 5 1 v zs.length (zs.map (Value.int .u8))
  nil : zs.length = 0 → v = .slice none 0 0

theorem OwnB.start (B : Nat) (w : World) : OwnB B w (.slice none 0 0) [] := ⟨World.ownsRow_nil w B 5 1, fun _ => rfl⟩

theorem ownsRow_block {w w' : World} {B e sz : Nat} {v : Value} {n : Nat} {xs : List Value} (h : w.ownsRow B e sz v n xs) (hb : ∀ k, v.ownBlock = some k → w'.heap[k]? = w.heap[k]?) : w'.ownsRow B e sz v n xs := by
  refine ⟨h.1, ?_⟩
  rcases h.2 with hn | ⟨g, cap, cur, rfl, hB, hg, rest⟩
  · exact .inl hn
  · exact .inr ⟨g, cap, cur, rfl, hB, (hb g rfl).trans hg, rest⟩

theorem OwnB.frame {B : Nat} {w w' : World} {v : Value} {zs : List Int} (h : OwnB B w v zs) (hb : ∀ k, v.ownBlock = some k → w'.heap[k]? = w.heap[k]?) : OwnB B w' v zs := ⟨ownsRow_block h.own hb, h.nil⟩
theorem OwnB.on {B : Nat} {w w' : World} {v : Value} {zs : List Int} (h : OwnB B w v zs) (hb : Below w.heap.size w w') : OwnB B w' v zs := h.frame fun k hk => hb.block k (h.own.lt k hk).2
theorem OwnB.drewN {B : Nat} {w : World} {v : Value} {zs : List Int} (h : OwnB B w v zs) (q : Nat) : OwnB B (w.drewN q) v zs := h.frame fun _ _ => rfl

theorem OwnB.form {B : Nat} {w : World} {v : Value} {zs : List Int} (h : OwnB B w v zs) : ∃ a c, v = .slice a zs.length c ∧ a.isNone = ((zs.length : Int) == 0) ∧ zs.length ≤ c ∧ ∀ g, a = some g → ∃ b, g = ⟨b, 0, none⟩ := by
  by_cases h0 : zs.length = 0
  · refine ⟨none, 0, by rw [h0]; exact h.nil h0, by simp [h0], by omega, fun g hg => by cases hg⟩
  · rcases h.own.2 with ⟨_, hn⟩ | ⟨g, cap, cur, hv, _, _, hc, _⟩
    · exact absurd hn h0
    · refine ⟨some ⟨g, 0, none⟩, cap, hv, ?_, hc, fun x hx => ⟨g, (Option.some.inj hx).symm⟩⟩
      have : ((zs.length : Int) == 0) = false := beq_eq_false_iff_ne.2 (by omega)
      rw [this]
      rfl

theorem OwnB.kept {B : Nat} {w : World} {a : Option Addr} {n c : Nat} {zs : List Int} (h : OwnB B w (.slice a n c) zs) : Kept w a zs := fun k hk => by
  rcases h.own.2 with ⟨_, hn⟩ | ⟨g, cap, cur, hv, _⟩
  · omega
  · have ha : a = some ⟨g, 0, none⟩ := by injection hv
    subst ha
    have := h.own.cells (g := g) rfl k (.int .u8 (zs.getD k 0)) (by simp [List.getD, hk])
    rw [Addr.add_lit] at this
    exact ⟨g, 0, rfl, (h.own.lt g rfl).2, this⟩

theorem wpList_app8 {w : World} {ops : Array Oper} {rest : List Oper} {o : Oper} {a : Act} {Q : Exit → Act → World → Prop} (hgd : o.guard = none) (s x : Operand)
    (ho : o.op = .call { callee := .builtin .append, args := #[s, x], argTypes := #[23, 23] }) {B : Nat} {v : Value} {zs : List Int} (hs : a.eval s = v) (hown : OwnB B w v zs)
    {b o1 c : Nat} {ys : List Int} (hx : a.eval x = .slice (some ⟨b, o1, none⟩) ys.length c) (hl : Lies w b o1 ys) (hy : 0 < ys.length) (hb : zs.length + ys.length ≤ 1099511627776) (hB : B ≤ w.heap.size)
    (h : ∀ g cap w', OwnB B w' (.slice (some ⟨g, 0, none⟩) (zs.length + ys.length) cap) (zs ++ ys) → w.grownBy w' v.ownBlock → (v.ownBlock = some g ∨ g = w.heap.size) → g < w'.heap.size → wpList Try.prog ops Q rest (a.put o.dst (.slice (some ⟨g, 0, none⟩) (zs.length + ys.length) cap)) w') :
    wpList Try.prog ops Q (o :: rest) a w := by
  obtain ⟨i0, hi0, hz0, hz1, hz2⟩ := info_parts info5
  refine wpList_append_lies w hgd s x 23 ho B 5 i0 (.int .u8 0) 1 1 Try.underlying23 hi0 hz0 hz1 hz2 rfl (by decide) v zs.length (zs.map (Value.int .u8)) hs hown.own ⟨b, o1, none⟩ ys.length c (ys.map (Value.int .u8)) hx (by simp) ?_ ?_ hy (by unfold maxLen; omega) (by omega) hB w.heap.size rfl ?_
  · intro j u hu
    rw [List.getElem?_map] at hu
    cases hj : ys[j]? with
    | none => rw [hj] at hu; cases hu
    | some z =>
      rw [hj] at hu
      obtain rfl := Option.some.inj hu
      have hjl : j < ys.length := (List.getElem?_eq_some_iff.1 hj).1
      have := hl j hjl
      rw [Addr.add_lit]
      rw [this]
      simp [List.getD, hj]
  · intro u hu
    obtain ⟨z, _, rfl⟩ := List.mem_map.1 hu
    rfl
  · intro g cap w' h1 h2 h3 h4
    refine h g cap w' ⟨?_, fun h0 => ?_⟩ h2 h3 h4
    · rw [List.length_append, List.map_append]
      exact h1
    · rw [List.length_append] at h0
      omega

/-- what an append leaves alone -/
theorem below_app {B : Nat} {w w' : World} {v : Value} {zs : List Int} (h : OwnB B w v zs) (hB : B ≤ w.heap.size) (hg : w.grownBy w' v.ownBlock) : Below B w w' :=
  (Below.refl B w).grown hg hB (fun k hk => (h.own.lt k hk).1)

end Go.Proofs.Qxb6600403a

import Derived.Test.Qxb6600403aS
import Derived.Test.Qxb6600403aL7
namespace Go.Proofs.Qxb6600403a
open Go.ChangeShapes Go.WideShapes Go.ChangeAt Go.RowKit Go.Deep
set_option linter.unusedVariables false

/-- the reading of a [][]byte -/
theorem inC_of {H : Type} {enc : TypeId × Value → H} {W : World} {a : Option Addr} {len cap : Nat} {d : DataW H} {p : List MemPlace} (h : DataW.Trod enc Try.prog W 0 (fun _ => true) true 38 (.slice a len cap) d p) :
    ∃ A C Z, InC W a cap len A C Z := by
  obtain ⟨fuel, hf⟩ := h
  rcases open_int_rows Try.underlying38 Try.underlying23 Try.underlying5 (by kernel_rfl) (by kernel_rfl) hf with ⟨hcs, _⟩ | ⟨x, l, c, A, L, C, Z, hcs, _, hl, hm, _, hcell⟩
  · simp [Value.cells] at hcs
    obtain ⟨rfl, rfl, rfl⟩ := hcs
    exact ⟨fun _ => none, fun _ => 0, fun _ => [], fun k hk => by omega, fun _ => ⟨rfl, rfl⟩, by simp, fun _ => by simp, fun i hi => by omega⟩
  · simp [Value.cells] at hcs
    obtain ⟨rfl, rfl, rfl⟩ := hcs
    have hlen : ∀ i, i < cap → (if i < cap then (Z i).take (L i) else []).length = L i := fun i hi => by
      obtain ⟨h1, h2, h3, h4, h5, h6, h7⟩ := hcell i hi
      rw [if_pos hi, List.length_take]
      omega
    refine ⟨A, C, fun i => if i < cap then (Z i).take (L i) else [], fun i hi => ?_, (fun h => by cases h), by omega, fun i => ?_, fun i hi hn => ?_⟩
    · have hic : i < cap := by omega
      obtain ⟨h1, h2, h3, h4, h5, h6, h7⟩ := hcell i hic
      obtain ⟨b, o, rfl⟩ := addr_plain (hcell 0 (by omega)).1
      rw [Addr.add_lit] at h1
      refine ⟨⟨b, o, rfl, World.block_lt_of_cell? W _ h1, by rw [hlen i hic]; exact h1⟩, fun k hk => ?_⟩
      rw [hlen i hic] at hk
      cases hA : A i with
      | none => have := h6 hA; omega
      | some a' =>
        have h8 := (h7 a' hA).2
        obtain ⟨b', o', rfl⟩ := addr_plain (h8 0 (by omega))
        have hc := h8 k (by omega)
        rw [Addr.add_lit] at hc
        refine ⟨b', o', rfl, World.block_lt_of_cell? W _ hc, ?_⟩
        have e : ((if i < cap then (Z i).take (L i) else []).getD k 0) = (Z i).getD k 0 := by simp [List.getD, hk, hic]
        rw [e]
        exact hc
    · by_cases hi : i < cap
      · rw [hlen i hi]
        obtain ⟨_, h2, h3, _⟩ := hcell i hi
        omega
      · rw [if_neg hi]; simp
    · have hic : i < cap := by omega
      obtain ⟨h1, h2, h3, h4, h5, h6, h7⟩ := hcell i hic
      rw [hlen i hic]
      have := h6 hn
      omega

end Go.Proofs.Qxb6600403a

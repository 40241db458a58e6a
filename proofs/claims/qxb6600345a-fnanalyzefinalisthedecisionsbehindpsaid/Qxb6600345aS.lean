import Derived.Test.Qxb6600345aQ
import Derived.ProofKit
import Derived.OpenShut
import Derived.ShutString
import Derived.ChangeOld
import Derived.Below
import Derived.Deep.Matrix
namespace Go.Proofs.Qxb6600345a
open Go.ChangeShapes Go.WideShapes Go.ChangeAt Go.RowKit Go.Deep
set_option linter.unusedVariables false

theorem own : ownKnob Try.prog.godebug = none := by kernel_rfl
theorem laidOut : laidOutB Try.prog = true := by kernel_rfl

theorem addr_plain {w : World} {a : Addr} {v : Value} (h : w.cell? (a.add 0) = some v) : ∃ b o, a = ⟨b, o, none⟩ := by
  obtain ⟨b, o, s⟩ := a
  have hs : s = none := by simpa [Addr.add] using World.cell?_spot h
  subst hs
  exact ⟨b, o, rfl⟩

theorem i32_bounds {n : Int} (h : (Lit.int .i32 n).wf = true) : -2147483648 ≤ n ∧ n ≤ 2147483647 := by
  have := bounds_i32 h
  omega

/-- the reading of an []int32 -/
theorem slI_of {H : Type} {enc : TypeId × Value → H} {W : World} {a : Option Addr} {len cap : Nat} {d : DataW H} {p : List MemPlace} (h : DataW.Trod enc Try.prog W 0 (fun _ => true) true 23 (.slice a len cap) d p) :
    ∃ z, SlI (fun b => b < W.heap.size) W a len z ∧ len ≤ maxLen ∧ (a = none → len = 0 ∧ cap = 0) ∧ ∀ k, -2147483648 ≤ z k ∧ z k ≤ 2147483647 := by
  obtain ⟨fuel, hf⟩ := h
  rcases open_ints Try.underlying23 Try.underlying21 (by kernel_rfl) hf with ⟨hcs, _⟩ | ⟨x, l, c, zs, hcs, _, hl, hm, hz, _, hcell, hwz⟩
  · simp [Value.cells] at hcs
    obtain ⟨rfl, rfl, rfl⟩ := hcs
    exact ⟨fun _ => 0, fun k hk => by omega, by simp, fun _ => ⟨rfl, rfl⟩, fun k => by simp⟩
  · simp [Value.cells] at hcs
    obtain ⟨rfl, rfl, rfl⟩ := hcs
    have hz' : zs.length = cap := by simpa using hz
    refine ⟨fun k => zs.getD k 0, fun k hk => ?_, by omega, (fun h => by cases h), fun k => ?_⟩
    · obtain ⟨b, o, rfl⟩ := addr_plain (hcell 0 (by omega))
      have hc := hcell k (by omega)
      rw [Addr.add_lit] at hc
      exact ⟨b, o, rfl, World.block_lt_of_cell? W _ hc, hc⟩
    · by_cases hk : k < zs.length
      · have : zs.getD k 0 ∈ zs := by simp [List.getD, hk]
        exact i32_bounds (hwz _ this)
      · simp [List.getD, List.getElem?_eq_none (show zs.length ≤ k by omega)]

/-- the reading of a [][]int32 -/
theorem slR_of {H : Type} {enc : TypeId × Value → H} {W : World} {a : Option Addr} {len cap : Nat} {d : DataW H} {p : List MemPlace} (h : DataW.Trod enc Try.prog W 0 (fun _ => true) true 22 (.slice a len cap) d p) :
    ∃ A L C Z, SlR (fun b => b < W.heap.size) W a len A L C Z ∧ len ≤ maxLen ∧ (∀ i, L i ≤ maxLen) ∧ (a = none → len = 0 ∧ cap = 0) ∧ (∀ i, i < len → A i = none → L i = 0 ∧ C i = 0) ∧ ∀ i k, -2147483648 ≤ Z i k ∧ Z i k ≤ 2147483647 := by
  obtain ⟨fuel, hf⟩ := h
  rcases open_int_rows Try.underlying22 Try.underlying23 Try.underlying21 (by kernel_rfl) (by kernel_rfl) hf with ⟨hcs, _⟩ | ⟨x, l, c, A, L, C, Z, hcs, _, hl, hm, _, hcell⟩
  · simp [Value.cells] at hcs
    obtain ⟨rfl, rfl, rfl⟩ := hcs
    exact ⟨fun _ => none, fun _ => 0, fun _ => 0, fun _ _ => 0, fun k hk => by omega, by simp, fun _ => by simp, fun _ => ⟨rfl, rfl⟩, fun i hi => by omega, fun i k => by simp⟩
  · simp [Value.cells] at hcs
    obtain ⟨rfl, rfl, rfl⟩ := hcs
    refine ⟨A, fun i => if i < cap then L i else 0, C, fun i k => if i < cap then (Z i).getD k 0 else 0, fun i hi => ?_, by omega, fun i => ?_, (fun h => by cases h), fun i hi hn => ?_, fun i k => ?_⟩
    · obtain ⟨h1, h2, h3, h4, h5, h6, h7⟩ := hcell i (by omega)
      obtain ⟨b, o, rfl⟩ := addr_plain (hcell 0 (by omega)).1
      rw [Addr.add_lit] at h1
      simp only [if_pos (show i < cap by omega)]
      refine ⟨⟨b, o, rfl, World.block_lt_of_cell? W _ h1, h1⟩, fun k hk => ?_⟩
      cases hA : A i with
      | none => have := h6 hA; omega
      | some a' =>
        have h8 := (h7 a' hA).2
        obtain ⟨b', o', rfl⟩ := addr_plain (h8 0 (by omega))
        have hc := h8 k (by omega)
        rw [Addr.add_lit] at hc
        exact ⟨b', o', rfl, World.block_lt_of_cell? W _ hc, hc⟩
    · dsimp only
      split
      · rename_i hi
        obtain ⟨_, h2, h3, _⟩ := hcell i hi
        omega
      · simp
    · have hic : i < cap := by omega
      obtain ⟨h1, h2, h3, h4, h5, h6, h7⟩ := hcell i hic
      simp only [if_pos hic]
      have := h6 hn
      omega
    · dsimp only
      split
      · rename_i hi
        obtain ⟨h1, h2, h3, h4, h5, h6, h7⟩ := hcell i hi
        by_cases hk : k < (Z i).length
        · have : (Z i).getD k 0 ∈ Z i := by simp [List.getD, hk]
          exact i32_bounds (h5 _ this)
        · simp [List.getD, List.getElem?_eq_none (show (Z i).length ≤ k by omega)]
      · omega

theorem ins_of {H : Type} {enc : TypeId × Value → H} {W : World} {a a' : Option Addr} {len cap len' cap' : Nat} {d d' : DataW H} {p p' : List MemPlace} (h : DataW.Trod enc Try.prog W 0 (fun _ => true) true 22 (.slice a len cap) d p) (h' : DataW.Trod enc Try.prog W 0 (fun _ => true) true 23 (.slice a' len' cap') d' p') :
    ∃ A L C Z dz, Ins W a a' len cap len' cap' A L C Z dz := by
  obtain ⟨A, L, C, Z, h1, h2, h3, h4, h5, h6⟩ := slR_of h
  obtain ⟨dz, g1, g2, g3, g4⟩ := slI_of h'
  exact ⟨A, L, C, Z, dz, h1, g1, h2, h3, g2, h4, g3, h5, h6, g4⟩

end Go.Proofs.Qxb6600345a

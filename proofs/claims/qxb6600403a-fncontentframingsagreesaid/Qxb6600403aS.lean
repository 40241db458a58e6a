import Derived.Test.Qxb6600403aF
import Derived.ProofKit
import Derived.OpenShut
import Derived.ShutString
import Derived.ChangeOld
import Derived.Below
import Derived.Deep.Matrix
namespace Go.Proofs.Qxb6600403a
open Go.ChangeShapes Go.WideShapes Go.ChangeAt Go.RowKit Go.Deep
set_option linter.unusedVariables false

theorem own : ownKnob Try.prog.godebug = none := by kernel_rfl
theorem laidOut : laidOutB Try.prog = true := by kernel_rfl

theorem addr_plain {w : World} {a : Addr} {v : Value} (h : w.cell? (a.add 0) = some v) : ∃ b o, a = ⟨b, o, none⟩ := by
  obtain ⟨b, o, s⟩ := a
  have hs : s = none := by simpa [Addr.add] using World.cell?_spot h
  subst hs
  exact ⟨b, o, rfl⟩

theorem lit_u8 {p : Int} (h : (Lit.int .u8 p).wf = true) : 0 ≤ p ∧ p < 256 := by
  have h1 : (decide (IntKind.u8.min ≤ p) && decide (p ≤ IntKind.u8.max)) = true := h
  have e1 : IntKind.u8.min = 0 := rfl
  have e2 : IntKind.u8.max = 255 := rfl
  rw [e1, e2, Bool.and_eq_true, decide_eq_true_iff, decide_eq_true_iff] at h1
  omega
theorem lit_u32 {p : Int} (h : (Lit.int .u32 p).wf = true) : 0 ≤ p ∧ p < 4294967296 := by
  have h1 : (decide (IntKind.u32.min ≤ p) && decide (p ≤ IntKind.u32.max)) = true := h
  have e1 : IntKind.u32.min = 0 := rfl
  have e2 : IntKind.u32.max = 4294967295 := rfl
  rw [e1, e2, Bool.and_eq_true, decide_eq_true_iff, decide_eq_true_iff] at h1
  omega
theorem lit_u64 {p : Int} (h : (Lit.int .u64 p).wf = true) : 0 ≤ p ∧ p < 18446744073709551616 := by
  have h1 : (decide (IntKind.u64.min ≤ p) && decide (p ≤ IntKind.u64.max)) = true := h
  have e1 : IntKind.u64.min = 0 := rfl
  have e2 : IntKind.u64.max = 18446744073709551615 := rfl
  rw [e1, e2, Bool.and_eq_true, decide_eq_true_iff, decide_eq_true_iff] at h1
  omega

/-- the reading of a []byte -/
theorem inB_of {H : Type} {enc : TypeId × Value → H} {W : World} {a : Option Addr} {len cap : Nat} {d : DataW H} {p : List MemPlace} (h : DataW.Trod enc Try.prog W 0 (fun _ => true) true 23 (.slice a len cap) d p) :
    ∃ zs : List Int, zs.length = len ∧ InB W a cap zs := by
  obtain ⟨fuel, hf⟩ := h
  rcases open_ints Try.underlying23 Try.underlying5 (by kernel_rfl) hf with ⟨hcs, _⟩ | ⟨x, l, c, zs, hcs, _, hl, hm, hz, _, hcell, hwz⟩
  · simp [Value.cells] at hcs
    obtain ⟨rfl, rfl, rfl⟩ := hcs
    exact ⟨[], rfl, fun k hk => by simp at hk, fun _ => ⟨rfl, rfl⟩, by simp⟩
  · simp [Value.cells] at hcs
    obtain ⟨rfl, rfl, rfl⟩ := hcs
    have hz' : zs.length = cap := by simpa using hz
    have hlen : (zs.take len).length = len := by rw [List.length_take]; omega
    refine ⟨zs.take len, hlen, fun k hk => ?_, (fun h => by cases h), by omega⟩
    rw [hlen] at hk
    obtain ⟨b, o, rfl⟩ := addr_plain (hcell 0 (by omega))
    have hc := hcell k (by omega)
    rw [Addr.add_lit] at hc
    refine ⟨b, o, rfl, World.block_lt_of_cell? W _ hc, ?_⟩
    have e : (zs.take len).getD k 0 = zs.getD k 0 := by simp [List.getD, hk]
    rw [e]
    exact hc

end Go.Proofs.Qxb6600403a

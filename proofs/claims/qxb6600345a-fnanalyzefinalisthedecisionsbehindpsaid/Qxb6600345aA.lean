import Derived.Test.Qxb6600345aRows
import Derived.WalkKit
import Derived.WalkSpells
import Derived.WalkLawsBesides
import Derived.Deep.QuietTactic
import Derived.BigQuiet
import Derived.Deep.RegionHeld3
import Derived.Deep.AppendLies
import Derived.Deep.OwnRows
import Derived.Deep.DrawnRows
import Derived.Deep.DeepCutAuto
namespace Go.Proofs.Qxb6600345a
open Go.RowKit

/-- a literal's variable -/
def vr (l : Int) : Nat := (l / 2).toNat
/-- a literal's negation -/
def ng (l : Int) : Int := if l % 2 = 0 then l + 1 else l - 1
/-- a literal's value out of its variable's: 0 unset, 1 true, 2 false -/
def lx (x l : Int) : Int := if x = 0 ∨ l % 2 = 0 then x else 3 - x

theorem bits_and_one (l : Int) (h0 : 0 ≤ l) (h1 : l < 2147483648) : bits BinOp.and IntKind.i32 l 1 = l % 2 :=
  bits_mask .i32 31 (by decide) wraps_i32 1 (by decide) l h0 h1

theorem bits_xor_one (l : Int) (h0 : 0 ≤ l) (h1 : l < 2147483648) : bits BinOp.xor IntKind.i32 l 1 = ng l := by
  obtain ⟨k, rfl⟩ := Int.eq_ofNat_of_zero_le h0
  have hk : k < 2147483648 := by omega
  have e : bits BinOp.xor IntKind.i32 (k : Int) 1 = ((k ^^^ 1 : Nat) : Int) := by
    have h1' : ((1 : Nat) : Int) = 1 := rfl
    rw [← h1']
    have hk2 : k % 2 ^ IntKind.i32.bits = k := Nat.mod_eq_of_lt (by simp [IntKind.bits]; omega)
    have ho2 : 1 % 2 ^ IntKind.i32.bits = 1 := by decide
    simp only [bits, BitVec.ofInt_natCast, BitVec.toNat_xor, BitVec.toNat_ofNat, hk2, ho2]
    have hb : k ^^^ 1 < 2 ^ 31 := Nat.xor_lt_two_pow (by simpa using hk) (by decide)
    exact wraps_i32 _ (Int.natCast_nonneg _) (by exact_mod_cast hb)
  rw [e]
  have hx : k ^^^ 1 = if k % 2 = 0 then k + 1 else k - 1 := by
    have hd : (k ^^^ 1) / 2 = k / 2 := by
      have := Nat.xor_div_two_pow (a := k) (b := 1) (n := 1)
      simpa using this
    have hm : (k ^^^ 1) % 2 = (k % 2 + 1) % 2 := by
      have := Nat.xor_mod_two_pow (a := k) (b := 1) (n := 1)
      have h2 : k % 2 = 0 ∨ k % 2 = 1 := by omega
      rcases h2 with h2 | h2 <;> simp [h2] at this ⊢ <;> omega
    split <;> omega
  unfold ng
  rw [hx]
  split <;> split <;> omega

set_option maxHeartbeats 400000 in
theorem var_any (l : Int) (w : World) :
    Calls Try.prog 25 #[.int .i32 l] w fun e w' => e = .returned (.int .i32 (l / 2)) ∧ w' = w := by
  go_enter Try.func25, Try.ntmps25
  go_wp2
  go_ret
  exact ⟨rfl, rfl⟩

set_option maxHeartbeats 400000 in
theorem not_any (l : Int) (h0 : 0 ≤ l) (h1 : l < 2147483648) (w : World) :
    Calls Try.prog 41 #[.int .i32 l] w fun e w' => e = .returned (.int .i32 (ng l)) ∧ w' = w := by
  have hb := bits_xor_one l h0 h1
  go_enter Try.func41, Try.ntmps41
  go_wp2
  go_ret
  exact ⟨rfl, rfl⟩

set_option maxHeartbeats 400000 in
theorem dl_any (b : Nat) (w : World) (a : Option Addr) (n c : Nat) (h : w.cell? ⟨b, 6, none⟩ = some (.slice a n c)) :
    Calls Try.prog 47 #[.pointer (some ⟨b, 0, none⟩)] w fun e w' => e = .returned (.int .i64 n) ∧ w' = w := by
  go_enter Try.func47, Try.ntmps47
  go_wp2
  go_ret
  exact ⟨rfl, rfl⟩

theorem ret_int {k : IntKind} {a b : Int} (h : a = b) : Ending.returned (.int k a) = .returned (.int k b) := by rw [h]

set_option maxHeartbeats 400000 in
theorem litValue_cell (b ab : Nat) (l : Int) (x : Int) (w : World) (n c : Nat) (hl : 0 ≤ l) (hl2 : l < 2147483648) (hln : l / 2 < n) (hx0 : 0 ≤ x) (hx2 : x ≤ 2)
   (h : w.cell? ⟨b, 2, none⟩ = some (.slice (some ⟨ab, 0, none⟩) n c))
   (hx : w.cell? ⟨ab, (l/2).toNat, none⟩ = some (.int .i8 x)) :
    Calls Try.prog 43 #[.pointer (some ⟨b, 0, none⟩), .int .i32 l] w fun e w' => e = .returned (.int .i8 (lx x l)) ∧ ∃ n, w' = w.drewN n := by
  have hb := bits_and_one l hl hl2
  go_enter Try.func43, Try.ntmps43
  go_wp2
  go_quiet ((go_at_call 25; exact Calls.quiet_of_same (var_any _ _)))
  go_wp2
  all_goals go_ret
  · exact ⟨ret_int (by simp_all [lx]), _, rfl⟩
  · refine ⟨ret_int ?_, _, rfl⟩
    have h1 : (x == 0) = true ∨ (l % 2 == 0) = true := by assumption
    simp only [beq_iff_eq] at h1
    simp [lx, h1]
  · refine ⟨ret_int ?_, _, rfl⟩
    have h1 : (x == 0) = false ∧ (l % 2 == 0) = false := by assumption
    simp only [beq_eq_false_iff_ne, ne_eq] at h1
    simp only [lx, h1, or_self, if_false]
end Go.Proofs.Qxb6600345a

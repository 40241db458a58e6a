import Derived.Test.Qxb6600403aE
namespace Go.Proofs.Qxb6600403a
open Go.RowKit
set_option linter.unusedVariables false
set_option linter.unusedSimpArgs false

set_option maxHeartbeats 400000 in
theorem bytes9 (v x : Int) (a : Option Addr) (n c : Nat) (hn : n ≤ maxLen) (w : World) : Calls Try.prog 9 #[.int .u64 v, .int .u8 x, .slice a n c] w fun e w' => (∃ r, e = .returned (.bool r)) ∧ w' = w := by
  unfold maxLen at hn
  go_enter Try.func9, Try.ntmps9
  go_wp2
  all_goals (go_ret; exact ⟨⟨_, rfl⟩, rfl⟩)

set_option maxHeartbeats 400000 in
theorem bytes19 (x : Int) (a a2 : Option Addr) (n c n2 c2 : Nat) (hn : n ≤ maxLen) (hn2 : n2 ≤ maxLen) (w : World) : Calls Try.prog 19 #[.slice a n c, .int .u8 x, .slice a2 n2 c2] w fun e w' => (∃ r, e = .returned (.bool r)) ∧ w' = w := by
  unfold maxLen at hn hn2
  go_enter Try.func19, Try.ntmps19
  go_wp2
  all_goals (go_ret; exact ⟨⟨_, rfl⟩, rfl⟩)

set_option maxHeartbeats 400000 in
theorem bytes25 (x : Int) (a : Option Addr) (n c : Nat) (hn : n ≤ maxLen) (w : World) : Calls Try.prog 25 #[.slice a n c, .int .u32 x] w fun e w' => (∃ r, e = .returned (.bool r)) ∧ w' = w := by
  unfold maxLen at hn
  go_enter Try.func25, Try.ntmps25
  go_wp2
  all_goals (go_ret; exact ⟨⟨_, rfl⟩, rfl⟩)

def LawPost (w : World) (e : Ending) (w' : World) : Prop := e = .returned (.bool true) ∧ Below w.heap.size w w'

/-- what is known of a slice of bytes that came in -/
structure InB (w : World) (a : Option Addr) (c : Nat) (zs : List Int) : Prop where
  sl : SlB (fun b => b < w.heap.size) w a zs
  nil : a = none → zs.length = 0 ∧ c = 0
  len : zs.length ≤ maxLen

/-- the width that a law takes -/
def wid (x : Int) (v : Nat) : Nat := if wof x < minw v then minw v else wof x

theorem isW_wof (x : Int) : IsW (wof x) := by
  unfold wof IsW
  split
  · simp
  · split
    · simp
    · split <;> simp
theorem isW_minw (v : Nat) : IsW (minw v) := by
  unfold minw IsW
  split
  · simp
  · split
    · simp
    · split <;> simp
theorem minw_ok {v : Nat} (hv : v < 4611686018427387904) : v < 2 ^ (8 * minw v - 2) := by
  unfold minw
  split
  · simpa
  · split
    · simpa
    · split <;> simpa
theorem isW_wid (x : Int) (v : Nat) : IsW (wid x v) := by
  unfold wid
  split
  · exact isW_minw v
  · exact isW_wof x
theorem wid_ok {x : Int} {v : Nat} (hv : v < 4611686018427387904) : v < 2 ^ (8 * wid x v - 2) := by
  unfold wid
  split
  · exact minw_ok hv
  · exact Nat.lt_of_lt_of_le (minw_ok hv) (Nat.pow_le_pow_right (by decide) (by omega))

end Go.Proofs.Qxb6600403a

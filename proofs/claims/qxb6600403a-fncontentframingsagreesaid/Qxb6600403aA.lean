import Derived.Test.Qxb6600403aRows
import Derived.WalkKit
import Derived.WalkSpells
import Derived.WalkLawsBesides
import Derived.Deep.QuietTactic
import Derived.BigQuiet
import Derived.Deep.RegionHeld3
import Derived.Deep.AppendLies
import Derived.Deep.OwnRows
import Derived.Deep.DrawnRows
import Derived.Deep.DeepCutAuto
namespace Go.Proofs.Qxb6600403a
open Go.RowKit
set_option linter.unusedVariables false
set_option linter.unusedSimpArgs false

theorem hide {p : Prop} (h : p) : Hid p := h

/-- a slice of bytes, in blocks of D -/
def SlB (D : Nat → Prop) (w : World) (a : Option Addr) (zs : List Int) : Prop :=
  ∀ k, k < zs.length → ∃ b o, a = some ⟨b, o, none⟩ ∧ D b ∧ w.cell? ⟨b, o + k, none⟩ = some (.int .u8 (zs.getD k 0))

theorem SlB.frame {D : Nat → Prop} {w w' : World} {a : Option Addr} {zs : List Int} (h : SlB D w a zs) (e : ∀ b, D b → w'.heap[b]? = w.heap[b]?) : SlB D w' a zs := fun k hk => by
  obtain ⟨b, o, h1, h2, h3⟩ := h k hk
  exact ⟨b, o, h1, h2, (World.cell?_of_block (w := w) (e b h2)).trans h3⟩
theorem SlB.weaken {D D' : Nat → Prop} {w : World} {a : Option Addr} {zs : List Int} (h : SlB D w a zs) (hd : ∀ b, D b → D' b) : SlB D' w a zs := fun k hk => by
  obtain ⟨b, o, h1, h2, h3⟩ := h k hk
  exact ⟨b, o, h1, hd b h2, h3⟩

/-- what is new between w and w' -/
def NewIn (w w' : World) (b : Nat) : Prop := w.heap.size ≤ b ∧ b < w'.heap.size

/-- a row of bytes of a block of its own -/
def RowB (w : World) (b : Nat) (zs : List Int) : Prop := w.rowIs b 5 zs.length (fun j => .int .u8 (zs.getD j 0))

theorem RowB.sl {D : Nat → Prop} {w : World} {b : Nat} {zs : List Int} (h : RowB w b zs) (hb : D b) : SlB D w (some ⟨b, 0, none⟩) zs := fun k hk =>
  ⟨b, 0, rfl, hb, by rw [Nat.zero_add]; exact h.cell hk⟩

theorem info5 : (Try.prog.info? 5).map (fun i => (i.zero, i.size, i.bytes)) = some (some (.int .u8 0), 1, 1) := by kernel_rfl

set_option maxHeartbeats 400000 in
theorem pow2_62 (w : World) : Calls Try.prog 10 #[.int .i64 62] w fun e w' => e = .returned (.int .u64 4611686018427387904) ∧ w' = w := by
  go_enter Try.func10, Try.ntmps10
  go_wp2
  go_loopg [3, 4] 62 (fun g p i wr => ∃ k : Nat, k ≤ 62 ∧ g = 62 - k ∧ i = .int .i64 k ∧ p = .int .u64 (2 ^ k : Nat) ∧ wr = w)
  case atStart => exact ⟨0, by omega, rfl, rfl, rfl, rfl⟩
  case round =>
    obtain ⟨k, hk, hg, rfl, rfl, rfl⟩ := hrel
    have Hg := hide hg
    clear hg
    by_cases hlt : k < 62
    · have hp : (2 ^ k : Nat) ≤ 2 ^ 61 := Nat.pow_le_pow_right (by omega) (by omega)
      have hp2 : (2 ^ (k + 1) : Nat) = 2 ^ k * 2 := Nat.pow_succ ..
      generalize (2 ^ k : Nat) = x at *
      go_wp2
      go_roundg (62 - (k + 1))
      case measure => rw [Hg.out]; omega
      case rel => exact ⟨k + 1, by omega, rfl, by go_num, by rw [hp2]; go_num, rfl⟩
    · obtain rfl : k = 62 := by omega
      go_wp2
      go_ret
      exact ⟨rfl, rfl⟩

/-- the width that a byte asks for -/
def wof (w : Int) : Nat := if w % 4 = 0 then 1 else if w % 4 = 1 then 2 else if w % 4 = 2 then 4 else 8
/-- the least width that holds a number -/
def minw (v : Nat) : Nat := if v < 64 then 1 else if v < 16384 then 2 else if v < 1073741824 then 4 else 8
/-- a width's tag -/
def tag (l : Nat) : Nat := if l = 1 then 0 else if l = 2 then 64 else if l = 4 then 128 else 192

set_option maxHeartbeats 400000 in
theorem widthOf_any (x : Int) (hx : 0 ≤ x ∧ x < 256) (w : World) : Calls Try.prog 12 #[.int .u8 x] w fun e w' => e = .returned (.int .i64 (wof x)) ∧ w' = w := by
  unfold wof
  by_cases h0 : x % 4 = 0
  · have hb : (x % 4 == 0) = true := by simp [h0]
    go_enter Try.func12, Try.ntmps12
    go_wp2
    go_ret
    exact ⟨by simp [h0], rfl⟩
  · have hb : (x % 4 == 0) = false := by simp [h0]
    by_cases h1 : x % 4 = 1
    · have hb1 : (x % 4 == 1) = true := by simp [h1]
      go_enter Try.func12, Try.ntmps12
      go_wp2
      go_ret
      exact ⟨by simp [h1], rfl⟩
    · have hb1 : (x % 4 == 1) = false := by simp [h1]
      by_cases h2 : x % 4 = 2
      · have hb2 : (x % 4 == 2) = true := by simp [h2]
        go_enter Try.func12, Try.ntmps12
        go_wp2
        go_ret
        exact ⟨by simp [h2], rfl⟩
      · have hb2 : (x % 4 == 2) = false := by simp [h2]
        go_enter Try.func12, Try.ntmps12
        go_wp2
        go_ret
        exact ⟨by simp [h0, h1, h2], rfl⟩

set_option maxHeartbeats 400000 in
theorem minWidth_any (v : Nat) (w : World) : Calls Try.prog 13 #[.int .u64 (v : Int)] w fun e w' => e = .returned (.int .i64 (minw v)) ∧ w' = w := by
  unfold minw
  by_cases h0 : v < 64
  · rw [if_pos h0]
    have hb : decide ((v : Int) < 64) = true := decide_eq_true (by omega)
    go_enter Try.func13, Try.ntmps13
    go_wp2
    go_ret
    exact ⟨rfl, rfl⟩
  · rw [if_neg h0]
    have hb : decide ((v : Int) < 64) = false := decide_eq_false (by omega)
    by_cases h1 : v < 16384
    · rw [if_pos h1]
      have hb1 : decide ((v : Int) < 16384) = true := decide_eq_true (by omega)
      go_enter Try.func13, Try.ntmps13
      go_wp2
      go_ret
      exact ⟨rfl, rfl⟩
    · rw [if_neg h1]
      have hb1 : decide ((v : Int) < 16384) = false := decide_eq_false (by omega)
      by_cases h2 : v < 1073741824
      · rw [if_pos h2]
        have hb2 : decide ((v : Int) < 1073741824) = true := decide_eq_true (by omega)
        go_enter Try.func13, Try.ntmps13
        go_wp2
        go_ret
        exact ⟨rfl, rfl⟩
      · rw [if_neg h2]
        have hb2 : decide ((v : Int) < 1073741824) = false := decide_eq_false (by omega)
        go_enter Try.func13, Try.ntmps13
        go_wp2
        go_ret
        exact ⟨rfl, rfl⟩

set_option maxHeartbeats 400000 in
theorem tag_any (l : Nat) (hl : l = 1 ∨ l = 2 ∨ l = 4 ∨ l = 8) (w : World) : Calls Try.prog 26 #[.int .i64 (l : Int)] w fun e w' => e = .returned (.int .u8 (tag l)) ∧ w' = w := by
  rcases hl with rfl | rfl | rfl | rfl
  all_goals
    go_enter Try.func26, Try.ntmps26
    go_wp2
    go_ret
    exact ⟨rfl, rfl⟩

end Go.Proofs.Qxb6600403a

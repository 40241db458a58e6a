import Derived.Test.Qxb6600403aB
import Derived.Deep.RegionWith
namespace Go.Proofs.Qxb6600403a
open Go.RowKit
set_option linter.unusedVariables false
set_option linter.unusedSimpArgs false

/-- byte j of v written in l bytes, the tag left out -/
def eb (v l j : Nat) : Nat := v / 256 ^ (l - 1 - j) % 256
/-- v written in l bytes -/
def enc (v l : Nat) : List Int := (List.range l).map fun j => ((if j = 0 then eb v l 0 + tag l else eb v l j : Nat) : Int)

theorem enc_length (v l : Nat) : (enc v l).length = l := by simp [enc]
theorem enc_getD (v l j : Nat) (hj : j < l) : (enc v l).getD j 0 = ((if j = 0 then eb v l 0 + tag l else eb v l j : Nat) : Int) := by
  simp [enc, List.getD, hj]

theorem div_step (v k : Nat) : v / 256 ^ (k + 1) = v / 256 ^ k / 256 := by rw [Nat.pow_succ, Nat.div_div_eq_div_mul]

def IsW (l : Nat) : Prop := l = 1 ∨ l = 2 ∨ l = 4 ∨ l = 8

/-- the first byte, the tag left out, is under 64 -/
theorem eb_zero {v l : Nat} (hl : IsW l) (hv : v < 2 ^ (8 * l - 2)) : eb v l 0 < 64 := by
  have h : ∀ m, v < m * 64 → 0 < m → v / m % 256 < 64 := fun m h1 h2 => Nat.lt_of_le_of_lt (Nat.mod_le _ _) ((Nat.div_lt_iff_lt_mul h2).2 (by rw [Nat.mul_comm]; exact h1))
  unfold eb
  rcases hl with rfl | rfl | rfl | rfl
  · exact h 1 (by simpa using hv) (by decide)
  · exact h 256 (by simpa using hv) (by decide)
  · exact h (256 ^ 3) (by simpa using hv) (by decide)
  · exact h (256 ^ 7) (by simpa using hv) (by decide)

theorem tag_le (l : Nat) : tag l ≤ 192 := by
  unfold tag
  split
  · omega
  · split
    · omega
    · split <;> omega

def EncPost (v l : Nat) (w : World) (e : Ending) (w' : World) : Prop :=
  e = .returned (.slice (some ⟨w.heap.size, 0, none⟩) l l) ∧ RowB w' w.heap.size (enc v l) ∧ Below w.heap.size w w'

set_option maxHeartbeats 800000 in
theorem encode_any (v l : Nat) (hl : IsW l) (hv : v < 2 ^ (8 * l - 2)) (w : World) :
    Calls Try.prog 15 #[.int .u64 (v : Int), .int .i64 (l : Int)] w fun e w' => EncPost v l w e w' := by
  have hl8 : 1 ≤ l ∧ l ≤ 8 := by rcases hl with h | h | h | h <;> omega
  have hmk := run_make_row' (P := Try.prog) 23 5 (.int .u8 0) 1 Try.underlying23 info5 rfl .i64 .i64 l (by omega) (by omega)
  have hrow0 := World.rowIs_made w (.int .u8 0) l 5
  have hb0 : Below w.heap.size w (w.alloc (.cells (madeCells #[.int .u8 0] l) 5)) := (Below.refl _ _).alloc (Nat.le_refl _) _
  go_enter Try.func15, Try.ntmps15
  go_wp2
  go_loopg [6, 7] l (fun g xv iv wr => ∃ k : Nat, k ≤ l ∧ g = k ∧ iv = .int .i64 ((k : Int) - 1) ∧ xv = .int .u64 ((v / 256 ^ (l - k) : Nat) : Int) ∧ wr.rowIs w.heap.size 5 l (fun j => .int .u8 (if k ≤ j then (eb v l j : Int) else 0)) ∧ Below w.heap.size w wr)
  case atStart => exact ⟨l, by omega, rfl, by go_num, by simp, hrow0.congr (fun j hj => by rw [if_neg (by omega)]), hb0⟩
  case round =>
    clear hrow0 hb0 hmk
    obtain ⟨k, hk, hg, rfl, rfl, hrow, hbel⟩ := hrel
    have Hg := (show Hid _ from hg)
    clear hg
    cases k with
    | succ k =>
      have e1 : ((k + 1 : Nat) : Int) - 1 = (k : Int) := by omega
      rw [e1]
      clear e1
      have hxv : v / 256 ^ (l - (k + 1)) < 18446744073709551616 := Nat.lt_of_le_of_lt (Nat.div_le_self _ _) (Nat.lt_of_lt_of_le hv (Nat.le_trans (Nat.pow_le_pow_right (by omega) (show 8 * l - 2 ≤ 62 by omega)) (by decide)))
      have hx1 : eb v l k = v / 256 ^ (l - (k + 1)) % 256 := by unfold eb; rw [show l - 1 - k = l - (k + 1) by omega]
      have hx2 : v / 256 ^ (l - k) = v / 256 ^ (l - (k + 1)) / 256 := by rw [show l - k = (l - (k + 1)) + 1 by omega, div_step]
      have co : wr.cell? ⟨w.heap.size, k, none⟩ = some (.int .u8 (if k + 1 ≤ k then (eb v l k : Int) else 0)) := hrow.cell (by omega)
      have zo := hrow.frozen k
      have hrn : (wr.setCell ⟨w.heap.size, k, none⟩ (.int .u8 ((v / 256 ^ (l - (k + 1)) : Nat) % 256 : Int))).rowIs w.heap.size 5 l (fun j => .int .u8 (if k ≤ j then (eb v l j : Int) else 0)) :=
        (hrow.set k _).congr (fun j _ => by
          by_cases e : j = k
          · subst e; simp only [if_true, Nat.le_refl, hx1]; rfl
          · simp only [if_neg e]
            by_cases e2 : k ≤ j
            · rw [if_pos e2, if_pos (by omega)]
            · rw [if_neg e2, if_neg (by omega)])
      have Hx2 := hide hx2
      clear hx1 hx2
      have hkl : (k : Int) < (l : Int) := by omega
      have hge : decide ((0 : Int) ≤ (k : Int)) = true := decide_eq_true (by omega)
      generalize v / 256 ^ (l - (k + 1)) = x at *
      go_wp2
      go_roundg k
      case measure => rw [Hg.out]; omega
      case rel => exact ⟨k, by omega, rfl, by go_num, by rw [Hx2.out]; go_num, hrn, hbel.setCell (by exact Nat.le_refl _) _⟩
    | zero =>
      have hge : decide ((0 : Int) ≤ ((0 : Nat) : Int) - 1) = false := by simp
      clear hge
      have co : wr.cell? ⟨w.heap.size, 0, none⟩ = some (.int .u8 (eb v l 0 : Int)) := hrow.cell (by omega)
      have zo := hrow.frozen 0
      have hrn : (wr.setCell ⟨w.heap.size, 0, none⟩ (.int .u8 ((eb v l 0 : Int) + (tag l : Int)))).rowIs w.heap.size 5 l (fun j => .int .u8 ((enc v l).getD j 0)) :=
        (hrow.set 0 _).congr (fun j hj => by
          rw [enc_getD v l j hj]
          by_cases e : j = 0
          · subst e; simp
          · simp [e])
      have Hrn := hide hrn
      have hbn : Below w.heap.size w (wr.setCell ⟨w.heap.size, 0, none⟩ (.int .u8 ((eb v l 0 : Int) + (tag l : Int)))) := hbel.setCell (by exact Nat.le_refl _) _
      have he0 : eb v l 0 < 64 := eb_zero hl hv
      have ht0 : tag l ≤ 192 := tag_le l
      have hge : decide ((0 : Int) ≤ ((0 : Nat) : Int) - 1) = false := by simp
      have hl0 : (0 : Int) < (l : Int) := by omega
      generalize eb v l 0 = e0 at *
      clear hrow hrn
      have hwr : IntKind.u8.wrap ((e0 : Int) + (tag l : Int)) = (e0 : Int) + (tag l : Int) := by rw [IntKind.wrap_u8]; omega
      have htag := fun w => tag_any l hl w
      go_wp2_with fail
      go_region_with (first | (go_at_call 26; refine (htag _).mono ?_; rintro e w' ⟨rfl, rfl⟩))
      all_goals
        go_wp2
        go_ret
        refine ⟨rfl, ?_, ?_⟩
        · unfold RowB
          rw [enc_length]
          exact Hrn.out
        · exact hbn.drew
end Go.Proofs.Qxb6600403a

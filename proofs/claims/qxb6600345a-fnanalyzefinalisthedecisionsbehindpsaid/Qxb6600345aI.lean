import Derived.Test.Qxb6600345aM
/-! The arguments: what is read, measured, copied. -/
namespace Go.Proofs.Qxb6600345a
open Go.RowKit
set_option linter.unusedVariables false
set_option linter.unusedSimpArgs false

/-- a slice of n int32s, in blocks of D -/
def SlI (D : Nat → Prop) (w : World) (a : Option Addr) (n : Nat) (z : Nat → Int) : Prop :=
  ∀ k, k < n → ∃ b o, a = some ⟨b, o, none⟩ ∧ D b ∧ w.cell? ⟨b, o + k, none⟩ = some (.int .i32 (z k))

/-- a slice of m such slices -/
def SlR (D : Nat → Prop) (w : World) (a : Option Addr) (m : Nat) (A : Nat → Option Addr) (L C : Nat → Nat) (Z : Nat → Nat → Int) : Prop :=
  ∀ i, i < m → (∃ b o, a = some ⟨b, o, none⟩ ∧ D b ∧ w.cell? ⟨b, o + i, none⟩ = some (.slice (A i) (L i) (C i))) ∧ SlI D w (A i) (L i) (Z i)

theorem SlI.frame {D : Nat → Prop} {w w' : World} {a : Option Addr} {n : Nat} {z : Nat → Int} (h : SlI D w a n z) (e : ∀ b, D b → w'.heap[b]? = w.heap[b]?) : SlI D w' a n z := fun k hk => by
  obtain ⟨b, o, h1, h2, h3⟩ := h k hk
  exact ⟨b, o, h1, h2, (World.cell?_of_block (w := w) (e b h2)).trans h3⟩
theorem SlR.frame {D : Nat → Prop} {w w' : World} {a : Option Addr} {m : Nat} {A : Nat → Option Addr} {L C : Nat → Nat} {Z : Nat → Nat → Int} (h : SlR D w a m A L C Z) (e : ∀ b, D b → w'.heap[b]? = w.heap[b]?) : SlR D w' a m A L C Z := fun i hi => by
  obtain ⟨⟨b, o, h1, h2, h3⟩, h4⟩ := h i hi
  exact ⟨⟨b, o, h1, h2, (World.cell?_of_block (w := w) (e b h2)).trans h3⟩, h4.frame e⟩

set_option maxHeartbeats 800000 in
theorem bytes9 (D : Nat → Prop) (n : Int) (ca da : Option Addr) (m cc dn dc : Nat) (A : Nat → Option Addr) (L C : Nat → Nat) (Z : Nat → Nat → Int) (w : World) (hR : SlR D w ca m A L C Z) (hm : m ≤ maxLen) (hL : ∀ i, L i ≤ maxLen) (hd : dn ≤ maxLen) :
    Calls Try.prog 9 #[.int .i64 n, .slice ca m cc, .slice da dn dc] w fun e w' => (∃ r, e = .returned (.bool r)) ∧ w' = w := by
  unfold maxLen at hm hd
  simp only [maxLen] at hL
  by_cases hm2 : (1048576 : Int) < (m : Int)
  · go_enter Try.func9, Try.ntmps9
    go_wp2
    go_ret
    exact ⟨⟨_, rfl⟩, rfl⟩
  · go_enter Try.func9, Try.ntmps9
    go_wp2
    go_loopg [7, 8] m (fun g z i wr => ∃ k : Nat, ∃ t : Int, k ≤ m ∧ g = m - k ∧ i = .int .i64 k ∧ z = .int .i64 t ∧ 0 ≤ t ∧ t ≤ 1048576 ∧ wr = w)
    case atStart => exact ⟨0, m, by omega, rfl, rfl, by go_num, by omega, by omega, rfl⟩
    case round =>
      obtain ⟨k, t, hk, hg, rfl, rfl, ht0, ht1, rfl⟩ := hrel
      by_cases hlt : k < m
      · obtain ⟨⟨b, o, rfl, _, hc⟩, _⟩ := hR k hlt
        have hLk := hL k
        go_wp2
        · go_ret; exact ⟨⟨_, rfl⟩, rfl⟩
        · go_ret; exact ⟨⟨_, rfl⟩, rfl⟩
        · go_roundg (m - (k + 1))
          case measure => omega
          case rel => exact ⟨k + 1, t + L k, by omega, rfl, by go_num, rfl, by omega, by omega, rfl⟩
      · go_wp2
        all_goals (go_ret; exact ⟨⟨_, rfl⟩, rfl⟩)
set_option maxHeartbeats 800000 in
theorem bytes21 (D : Nat → Prop) (n : Int) (ca da : Option Addr) (m cc dn dc : Nat) (A : Nat → Option Addr) (L C : Nat → Nat) (Z : Nat → Nat → Int) (w : World) (hR : SlR D w ca m A L C Z) (hm : m ≤ maxLen) (hL : ∀ i, L i ≤ maxLen) (hd : dn ≤ maxLen) :
    Calls Try.prog 21 #[.int .i64 n, .slice ca m cc, .slice da dn dc] w fun e w' => (∃ r, e = .returned (.bool r)) ∧ w' = w := by
  unfold maxLen at hm hd
  simp only [maxLen] at hL
  by_cases hm2 : (1048576 : Int) < (m : Int)
  · go_enter Try.func21, Try.ntmps21
    go_wp2
    go_ret
    exact ⟨⟨_, rfl⟩, rfl⟩
  · go_enter Try.func21, Try.ntmps21
    go_wp2
    go_loopg [7, 8] m (fun g z i wr => ∃ k : Nat, ∃ t : Int, k ≤ m ∧ g = m - k ∧ i = .int .i64 k ∧ z = .int .i64 t ∧ 0 ≤ t ∧ t ≤ 1048576 ∧ wr = w)
    case atStart => exact ⟨0, m, by omega, rfl, rfl, by go_num, by omega, by omega, rfl⟩
    case round =>
      obtain ⟨k, t, hk, hg, rfl, rfl, ht0, ht1, rfl⟩ := hrel
      by_cases hlt : k < m
      · obtain ⟨⟨b, o, rfl, _, hc⟩, _⟩ := hR k hlt
        have hLk := hL k
        go_wp2
        · go_ret; exact ⟨⟨_, rfl⟩, rfl⟩
        · go_ret; exact ⟨⟨_, rfl⟩, rfl⟩
        · go_roundg (m - (k + 1))
          case measure => omega
          case rel => exact ⟨k + 1, t + L k, by omega, rfl, by go_num, rfl, by omega, by omega, rfl⟩
      · go_wp2
        all_goals (go_ret; exact ⟨⟨_, rfl⟩, rfl⟩)
set_option maxHeartbeats 800000 in
theorem bytes38 (D : Nat → Prop) (n p : Int) (ca da : Option Addr) (m cc dn dc : Nat) (A : Nat → Option Addr) (L C : Nat → Nat) (Z : Nat → Nat → Int) (w : World) (hR : SlR D w ca m A L C Z) (hm : m ≤ maxLen) (hL : ∀ i, L i ≤ maxLen) (hd : dn ≤ maxLen) :
    Calls Try.prog 38 #[.int .i64 n, .slice ca m cc, .slice da dn dc, .int .i32 p] w fun e w' => (∃ r, e = .returned (.bool r)) ∧ w' = w := by
  unfold maxLen at hm hd
  simp only [maxLen] at hL
  by_cases hm2 : (1048576 : Int) < (m : Int)
  · go_enter Try.func38, Try.ntmps38
    go_wp2
    go_ret
    exact ⟨⟨_, rfl⟩, rfl⟩
  · go_enter Try.func38, Try.ntmps38
    go_wp2
    go_loopg [9, 10] m (fun g z i wr => ∃ k : Nat, ∃ t : Int, k ≤ m ∧ g = m - k ∧ i = .int .i64 k ∧ z = .int .i64 t ∧ 0 ≤ t ∧ t ≤ 1048576 ∧ wr = w)
    case atStart => exact ⟨0, m, by omega, rfl, rfl, by go_num, by omega, by omega, rfl⟩
    case round =>
      obtain ⟨k, t, hk, hg, rfl, rfl, ht0, ht1, rfl⟩ := hrel
      by_cases hlt : k < m
      · obtain ⟨⟨b, o, rfl, _, hc⟩, _⟩ := hR k hlt
        have hLk := hL k
        go_wp2
        · go_ret; exact ⟨⟨_, rfl⟩, rfl⟩
        · go_ret; exact ⟨⟨_, rfl⟩, rfl⟩
        · go_roundg (m - (k + 1))
          case measure => omega
          case rel => exact ⟨k + 1, t + L k, by omega, rfl, by go_num, rfl, by omega, by omega, rfl⟩
      · go_wp2
        all_goals (go_ret; exact ⟨⟨_, rfl⟩, rfl⟩)
set_option maxHeartbeats 800000 in
theorem bytes40 (D : Nat → Prop) (n p : Int) (ca da : Option Addr) (m cc dn dc : Nat) (A : Nat → Option Addr) (L C : Nat → Nat) (Z : Nat → Nat → Int) (w : World) (hR : SlR D w ca m A L C Z) (hm : m ≤ maxLen) (hL : ∀ i, L i ≤ maxLen) (hd : dn ≤ maxLen) :
    Calls Try.prog 40 #[.int .i64 n, .slice ca m cc, .slice da dn dc, .int .i32 p] w fun e w' => (∃ r, e = .returned (.bool r)) ∧ w' = w := by
  unfold maxLen at hm hd
  simp only [maxLen] at hL
  by_cases hm2 : (1048576 : Int) < (m : Int)
  · go_enter Try.func40, Try.ntmps40
    go_wp2
    go_ret
    exact ⟨⟨_, rfl⟩, rfl⟩
  · go_enter Try.func40, Try.ntmps40
    go_wp2
    go_loopg [9, 10] m (fun g z i wr => ∃ k : Nat, ∃ t : Int, k ≤ m ∧ g = m - k ∧ i = .int .i64 k ∧ z = .int .i64 t ∧ 0 ≤ t ∧ t ≤ 1048576 ∧ wr = w)
    case atStart => exact ⟨0, m, by omega, rfl, rfl, by go_num, by omega, by omega, rfl⟩
    case round =>
      obtain ⟨k, t, hk, hg, rfl, rfl, ht0, ht1, rfl⟩ := hrel
      by_cases hlt : k < m
      · obtain ⟨⟨b, o, rfl, _, hc⟩, _⟩ := hR k hlt
        have hLk := hL k
        go_wp2
        · go_ret; exact ⟨⟨_, rfl⟩, rfl⟩
        · go_ret; exact ⟨⟨_, rfl⟩, rfl⟩
        · go_roundg (m - (k + 1))
          case measure => omega
          case rel => exact ⟨k + 1, t + L k, by omega, rfl, by go_num, rfl, by omega, by omega, rfl⟩
      · go_wp2
        all_goals (go_ret; exact ⟨⟨_, rfl⟩, rfl⟩)

def BwPost (m : Nat) (L : Nat → Nat) (w : World) (e : Ending) (w' : World) : Prop := (∃ r, e = .returned (.bool r) ∧ (r = true → ∀ i, i < m → L i ≤ 1048576)) ∧ w' = w

set_option maxHeartbeats 800000 in
theorem bytesWithin_any (D : Nat → Prop) (ca da : Option Addr) (m cc dn dc : Nat) (A : Nat → Option Addr) (L C : Nat → Nat) (Z : Nat → Nat → Int) (w : World) (hR : SlR D w ca m A L C Z) (hm : m ≤ maxLen) (hL : ∀ i, L i ≤ maxLen) (hd : dn ≤ maxLen) :
    Calls Try.prog 10 #[.slice ca m cc, .slice da dn dc] w fun e w' => BwPost m L w e w' := by
  unfold maxLen at hm hd
  simp only [maxLen] at hL
  by_cases hm2 : (1048576 : Int) < (m : Int)
  · go_enter Try.func10, Try.ntmps10
    go_wp2
    go_ret
    exact ⟨⟨_, rfl, fun h => by cases h⟩, rfl⟩
  · by_cases hd2 : (1048576 : Int) < (dn : Int)
    · go_enter Try.func10, Try.ntmps10
      go_wp2
      go_ret
      exact ⟨⟨_, rfl, fun h => by cases h⟩, rfl⟩
    · by_cases hs2 : (1048576 : Int) < 24 * (m : Int) + 4 * (dn : Int)
      · go_enter Try.func10, Try.ntmps10
        go_wp2
        go_ret
        exact ⟨⟨_, rfl, fun h => by cases h⟩, rfl⟩
      · go_enter Try.func10, Try.ntmps10
        go_wp2
        go_loopg [5, 6] m (fun g z i wr => ∃ k : Nat, ∃ t : Int, k ≤ m ∧ g = m - k ∧ i = .int .i64 k ∧ z = .int .i64 t ∧ 0 ≤ t ∧ t ≤ 1048576 ∧ wr = w ∧ ∀ j, j < k → L j ≤ 1048576)
        case atStart => exact ⟨0, _, by omega, rfl, rfl, rfl, by omega, by omega, rfl, fun j h => by omega⟩
        case round =>
          obtain ⟨k, t, hk, hg, rfl, rfl, ht0, ht1, rfl, hall⟩ := hrel
          have HA := (show Hid _ from hall)
          clear hall
          by_cases hlt : k < m
          · obtain ⟨⟨b, o, rfl, _, hc⟩, _⟩ := hR k hlt
            have hLk := hL k
            go_wp2
            · go_ret; exact ⟨⟨_, rfl, fun h => by cases h⟩, rfl⟩
            · go_ret; exact ⟨⟨_, rfl, fun h => by cases h⟩, rfl⟩
            · go_roundg (m - (k + 1))
              case measure => omega
              case rel => exact ⟨k + 1, t + 4 * L k, by omega, rfl, by go_num, rfl, by omega, by omega, rfl, fun j h => by by_cases e : j = k; (subst e; omega); (exact HA.out j (by omega))⟩
          · go_wp2
            go_ret
            exact ⟨⟨_, rfl, fun _ i hi => HA.out i (by omega)⟩, rfl⟩
/-- a clause of two literals or more, of different variables -/
def ClOk (n : Nat) (len : Nat) (z : Nat → Int) : Prop := 2 ≤ len ∧ (∀ k, k < len → 0 ≤ z k ∧ z k < 2 * (n : Int)) ∧ ∀ j k, j < len → k < len → vr (z j) = vr (z k) → j = k

def WfPost (n : Int) (m : Nat) (L : Nat → Nat) (Z : Nat → Nat → Int) (dn : Nat) (dz : Nat → Int) (w : World) (e : Ending) (w' : World) : Prop :=
  (∃ r, e = .returned (.bool r) ∧ (r = true → ∃ nn : Nat, n = nn ∧ 1 ≤ nn ∧ nn ≤ 4096 ∧ (∀ i, i < m → ClOk nn (L i) (Z i)) ∧ ∀ j, j < dn → 0 ≤ dz j ∧ dz j < 2 * (nn : Int))) ∧ Below w.heap.size w w'

def WfOut (nn m : Nat) (L : Nat → Nat) (Z : Nat → Nat → Int) (w : World) (g : Nat) (iv : Value) (wr : World) : Prop :=
  ∃ (c : Nat) (s : Nat → Int), c ≤ m ∧ g = m - c ∧ iv = .int .i64 c ∧ wr.rowIs w.heap.size 3 nn (fun v => .int .i64 (s v)) ∧ (∀ v, v < nn → 0 ≤ s v ∧ s v ≤ c) ∧ Below w.heap.size w wr ∧ ∀ i, i < c → ClOk nn (L i) (Z i)

def WfIn (nn : Nat) (len : Nat) (z : Nat → Int) (c : Nat) (w : World) (g : Nat) (kv : Value) (wr : World) : Prop :=
  ∃ (k : Nat) (s : Nat → Int), k ≤ len ∧ g = len - k ∧ kv = .int .i64 k ∧ wr.rowIs w.heap.size 3 nn (fun v => .int .i64 (s v)) ∧ (∀ v, v < nn → 0 ≤ s v ∧ s v ≤ c + 1) ∧ Below w.heap.size w wr ∧
    (∀ v, v < nn → (s v = (c : Int) + 1 ↔ ∃ j, j < k ∧ vr (z j) = v)) ∧ (∀ j, j < k → 0 ≤ z j ∧ z j < 2 * (nn : Int)) ∧ ∀ i j, i < k → j < k → vr (z i) = vr (z j) → i = j

theorem wfin_start {nn len : Nat} {z : Nat → Int} {c : Nat} {w wr : World} {s : Nat → Int} (hr : wr.rowIs w.heap.size 3 nn (fun v => .int .i64 (s v))) (hs : ∀ v, v < nn → 0 ≤ s v ∧ s v ≤ c) (hb : Below w.heap.size w wr) : WfIn nn len z c w len (.int .i64 0) wr :=
  ⟨0, s, Nat.zero_le _, rfl, rfl, hr, fun v hv => by have := hs v hv; omega, hb, fun v hv => ⟨fun e => by have := hs v hv; omega, fun ⟨j, hj, _⟩ => by omega⟩, fun j hj => by omega, fun i j hi => by omega⟩

theorem wfin_step {nn len : Nat} {z : Nat → Int} {c k : Nat} {w wr : World} {s : Nat → Int} (hk : k < len) (hr : wr.rowIs w.heap.size 3 nn (fun v => .int .i64 (s v))) (hs : ∀ v, v < nn → 0 ≤ s v ∧ s v ≤ c + 1) (hb : Below w.heap.size w wr)
    (he : ∀ v, v < nn → (s v = (c : Int) + 1 ↔ ∃ j, j < k ∧ vr (z j) = v)) (hz : ∀ j, j < k → 0 ≤ z j ∧ z j < 2 * (nn : Int)) (hi : ∀ i j, i < k → j < k → vr (z i) = vr (z j) → i = j)
    (h0 : 0 ≤ z k) (h1 : z k < 2 * (nn : Int)) (hne : s (vr (z k)) ≠ (c : Int) + 1) :
    WfIn nn len z c w (len - (k + 1)) (.int .i64 ((k : Int) + 1)) (wr.setCell ⟨w.heap.size, (z k / 2).toNat, none⟩ (.int .i64 ((c : Int) + 1))) := by
  have hv : vr (z k) < nn := by unfold vr; omega
  have hnew : ¬ ∃ j, j < k ∧ vr (z j) = vr (z k) := fun h => hne ((he _ hv).2 h)
  refine ⟨k + 1, up s (vr (z k)) ((c : Int) + 1), hk, rfl, by go_num, (hr.set _ _).congr (fun j _ => ?_), fun v hvn => ?_, hb.setCell (by exact Nat.le_refl _) _, fun v hvn => ?_, fun j hj => ?_, fun i j hi1 hj1 hv1 => ?_⟩
  · by_cases e : j = (z k / 2).toNat <;> simp [up, vr, e]
  · simp only [up]; split
    · omega
    · exact hs v hvn
  · simp only [up]
    by_cases e : v = vr (z k)
    · rw [if_pos e]
      exact ⟨fun _ => ⟨k, by omega, e.symm⟩, fun _ => rfl⟩
    · rw [if_neg e, he v hvn]
      exact ⟨fun ⟨j, h2, h3⟩ => ⟨j, by omega, h3⟩, fun ⟨j, h2, h3⟩ => ⟨j, by (have : j ≠ k := fun e2 => e (by rw [← h3, e2])); omega, h3⟩⟩
  · by_cases e : j = k
    · subst e; exact ⟨h0, h1⟩
    · exact hz j (by omega)
  · by_cases ei : i = k
    · by_cases ej : j = k
      · omega
      · exact absurd ⟨j, by omega, by rw [← hv1, ei]⟩ hnew
    · by_cases ej : j = k
      · exact absurd ⟨i, by omega, by rw [hv1, ej]⟩ hnew
      · exact hi i j (by omega) (by omega) hv1

theorem wfout_step {nn m : Nat} {L : Nat → Nat} {Z : Nat → Nat → Int} {c : Nat} {w wr : World} {s : Nat → Int} (hc : c < m) (h2 : 2 ≤ L c) (hr : wr.rowIs w.heap.size 3 nn (fun v => .int .i64 (s v))) (hs : ∀ v, v < nn → 0 ≤ s v ∧ s v ≤ c + 1) (hb : Below w.heap.size w wr)
    (hz : ∀ j, j < L c → 0 ≤ Z c j ∧ Z c j < 2 * (nn : Int)) (hi : ∀ i j, i < L c → j < L c → vr (Z c i) = vr (Z c j) → i = j) (hall : ∀ i, i < c → ClOk nn (L i) (Z i)) :
    WfOut nn m L Z w (m - (c + 1)) (.int .i64 ((c : Int) + 1)) wr :=
  ⟨c + 1, s, hc, rfl, by go_num, hr, fun v hv => by have := hs v hv; omega, hb, fun i hic => by
    by_cases e : i = c
    · subst e; exact ⟨h2, hz, hi⟩
    · exact hall i (by omega)⟩

set_option maxHeartbeats 1600000 in
theorem wellFormed_any (D : Nat → Prop) (n : Int) (ca da : Option Addr) (m cc dn dc : Nat) (A : Nat → Option Addr) (L C : Nat → Nat) (Z : Nat → Nat → Int) (dz : Nat → Int) (w : World) (hR : SlR D w ca m A L C Z) (hdz : SlI D w da dn dz) (hD : ∀ b, D b → b < w.heap.size) (hm : m ≤ 65536) (hL : ∀ i, L i ≤ maxLen) (hd : dn ≤ 1048576) (hZb : ∀ i k, -2147483648 ≤ Z i k ∧ Z i k ≤ 2147483647) (hdb : ∀ k, -2147483648 ≤ dz k ∧ dz k ≤ 2147483647) :
    Calls Try.prog 11 #[.int .i64 n, .slice ca m cc, .slice da dn dc] w fun e w' => WfPost n m L Z dn dz w e w' := by
  simp only [maxLen] at hL
  by_cases hn1 : n < 1
  · go_enter Try.func11, Try.ntmps11
    go_wp2
    go_ret
    exact ⟨⟨_, rfl, fun h => by cases h⟩, Below.refl _ _⟩
  · by_cases hn2 : 4096 < n
    · go_enter Try.func11, Try.ntmps11
      go_wp2
      go_ret
      exact ⟨⟨_, rfl, fun h => by cases h⟩, Below.refl _ _⟩
    · obtain ⟨nn, rfl⟩ := Int.eq_ofNat_of_zero_le (show 0 ≤ n by omega)
      have hmk := run_make_row' (P := Try.prog) 42 3 (.int .i64 0) 8 Try.underlying42 info3 rfl .i64 .i64 nn (by omega) (by omega)
      have hrow0 := World.rowIs_made w (.int .i64 0) nn 3
      have hb0 : Below w.heap.size w (w.alloc (.cells (madeCells #[.int .i64 0] nn) 3)) := (Below.refl _ _).alloc (Nat.le_refl _) _
      go_enter Try.func11, Try.ntmps11
      go_wp2
      have hstart : WfOut nn m L Z w m (.int .i64 0) (w.alloc (.cells (madeCells #[.int .i64 0] nn) 3)) :=
        ⟨0, fun _ => 0, by omega, rfl, rfl, hrow0, fun v hv => by simp, hb0, fun i hi => by omega⟩
      clear hrow0 hb0 hmk
      have hRw : ∀ wr, Below w.heap.size w wr → SlR D wr ca m A L C Z := fun wr hb => hR.frame (fun b hb2 => hb.block b (hD b hb2))
      have hDw : ∀ wr, Below w.heap.size w wr → SlI D wr da dn dz := fun wr hb => hdz.frame (fun b hb2 => hb.block b (hD b hb2))
      have HR := (show Hid _ from hRw)
      have HD := (show Hid _ from hDw)
      clear hR hdz hD hRw hDw
      go_loopg [8] m (fun g iv wr => WfOut nn m L Z w g iv wr)
      case atStart => exact hstart
      case round =>
        clear hstart
        obtain ⟨c, s, hcm, hg, rfl, hrow, hs, hbel, hall⟩ := hrel
        have Hg := (show Hid _ from hg)
        have HA := (show Hid _ from hall)
        have Hs := (show Hid _ from hs)
        clear hg hall hs
        by_cases hlt : c < m
        · obtain ⟨⟨b, o, rfl, _, hc⟩, hrw⟩ := HR.out wr hbel c hlt
          have hLc := hL c
          by_cases h2 : L c < 2
          · go_wp2
            go_ret
            exact ⟨⟨_, rfl, fun h => by cases h⟩, hbel⟩
          · have hst := wfin_start (len := L c) (z := Z c) hrow Hs.out hbel
            obtain ⟨rb, ro, hra, _, _⟩ := hrw 0 (by omega)
            have hcells : ∀ wr, Below w.heap.size w wr → ∀ k, k < L c → wr.cell? ⟨rb, ro + k, none⟩ = some (.int .i32 (Z c k)) := fun wr hb k hk => by
              obtain ⟨rb', ro', hra', _, hcell⟩ := (HR.out wr hb c hlt).2 k hk
              rw [hra] at hra'
              obtain ⟨rfl, rfl⟩ : rb = rb' ∧ ro = ro' := by simpa using hra'
              exact hcell
            rw [hra] at hc
            have HC := (show Hid _ from hcells)
            clear hrow hbel hrw hra hcells
            go_wp2
            go_loopg [10] (L c) (fun g kv wr' => WfIn nn (L c) (Z c) c w g kv wr')
            case atStart => exact hst
            case round =>
              clear hst hc
              obtain ⟨k, s', hk, hg', rfl, hrow, hs, hbel, he, hz, hi⟩ := hrel
              have Hg' := (show Hid _ from hg')
              have Hs' := (show Hid _ from hs)
              have He := (show Hid _ from he)
              have Hz := (show Hid _ from hz)
              have Hi := (show Hid _ from hi)
              clear hg' hs he hz hi
              by_cases hlk : k < L c
              · have hcell := HC.out wr hbel k hlk
                have hZk := hZb c k
                by_cases hz0 : Z c k < 0
                · go_wp2
                  go_ret
                  exact ⟨⟨_, rfl, fun h => by cases h⟩, hbel⟩
                · by_cases hz1 : 2 * (nn : Int) ≤ Z c k
                  · go_wp2
                    go_ret
                    exact ⟨⟨_, rfl, fun h => by cases h⟩, hbel⟩
                  · have hv : vr (Z c k) < nn := by unfold vr; omega
                    have cst : wr.cell? ⟨w.heap.size, (Z c k / 2).toNat, none⟩ = some (.int .i64 (s' (vr (Z c k)))) := hrow.cell hv
                    have zst := hrow.frozen (Z c k / 2).toNat
                    by_cases heq : s' (vr (Z c k)) = (c : Int) + 1
                    · have heqb : (s' (vr (Z c k)) == (c : Int) + 1) = true := by simp [heq]
                      clear heq
                      go_wp2
                      go_ret
                      exact ⟨⟨_, rfl, fun h => by cases h⟩, hbel⟩
                    · have heqb : (s' (vr (Z c k)) == (c : Int) + 1) = false := by simp [heq]
                      have hn := wfin_step hlk hrow Hs'.out hbel He.out Hz.out Hi.out (by omega) (by omega) heq
                      clear heq
                      go_wp2
                      go_roundg (L c - (k + 1))
                      case measure => rw [Hg'.out]; omega
                      case rel => exact hn
              · have hkk : k = L c := by omega
                have hn := wfout_step (m := m) (L := L) (Z := Z) hlt (by omega) hrow Hs'.out hbel (by rw [← hkk]; exact Hz.out) (by rw [← hkk]; exact Hi.out) HA.out
                clear hkk
                go_wp2
                go_roundg (m - (c + 1))
                case measure => rw [Hg.out]; omega
                case rel => exact hn
        · go_wp2
          go_loopg [13] dn (fun g iv wr' => ∃ j : Nat, j ≤ dn ∧ g = dn - j ∧ iv = .int .i64 j ∧ wr' = wr ∧ ∀ q, q < j → 0 ≤ dz q ∧ dz q < 2 * (nn : Int))
          case atStart => exact ⟨0, by omega, rfl, rfl, rfl, fun q hq => by omega⟩
          case round =>
            obtain ⟨j, hj, hgj, rfl, rfl, hdall⟩ := hrel
            have Hd := (show Hid _ from hdall)
            have Hgj := (show Hid _ from hgj)
            clear hdall hgj
            by_cases hlj : j < dn
            · obtain ⟨rb, ro, rfl, _, hcell⟩ := HD.out _ hbel j hlj
              have hdj := hdb j
              by_cases hz0 : dz j < 0
              · go_wp2
                go_ret
                exact ⟨⟨_, rfl, fun h => by cases h⟩, hbel⟩
              · by_cases hz1 : 2 * (nn : Int) ≤ dz j
                · go_wp2
                  go_ret
                  exact ⟨⟨_, rfl, fun h => by cases h⟩, hbel⟩
                · go_wp2
                  go_roundg (dn - (j + 1))
                  case measure => rw [Hgj.out]; omega
                  case rel => exact ⟨j + 1, by omega, rfl, by go_num, rfl, fun q hq => by by_cases e : q = j; (subst e; omega); (exact Hd.out q (by omega))⟩
            · go_wp2
              go_ret
              exact ⟨⟨_, rfl, fun _ => ⟨nn, rfl, by omega, by omega, fun i hi => HA.out i (by omega), fun q hq => Hd.out q (by omega)⟩⟩, hbel⟩
end Go.Proofs.Qxb6600345a

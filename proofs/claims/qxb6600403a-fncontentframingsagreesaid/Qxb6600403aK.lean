import Derived.Test.Qxb6600403aJ
namespace Go.Proofs.Qxb6600403a
open Go.RowKit
set_option linter.unusedVariables false
set_option linter.unusedSimpArgs false

/-- a slice of m slices of bytes -/
def SlC (D : Nat → Prop) (w : World) (a : Option Addr) (m : Nat) (A : Nat → Option Addr) (C : Nat → Nat) (Z : Nat → List Int) : Prop :=
  ∀ i, i < m → (∃ b o, a = some ⟨b, o, none⟩ ∧ D b ∧ w.cell? ⟨b, o + i, none⟩ = some (.slice (A i) (Z i).length (C i))) ∧ SlB D w (A i) (Z i)

theorem SlC.frame {D : Nat → Prop} {w w' : World} {a : Option Addr} {m : Nat} {A : Nat → Option Addr} {C : Nat → Nat} {Z : Nat → List Int} (h : SlC D w a m A C Z) (e : ∀ b, D b → w'.heap[b]? = w.heap[b]?) : SlC D w' a m A C Z := fun i hi => by
  obtain ⟨⟨b, o, h1, h2, h3⟩, h4⟩ := h i hi
  exact ⟨⟨b, o, h1, h2, (World.cell?_of_block (w := w) (e b h2)).trans h3⟩, h4.frame e⟩
theorem SlC.weaken {D D' : Nat → Prop} {w : World} {a : Option Addr} {m : Nat} {A : Nat → Option Addr} {C : Nat → Nat} {Z : Nat → List Int} (h : SlC D w a m A C Z) (hd : ∀ b, D b → D' b) : SlC D' w a m A C Z := fun i hi => by
  obtain ⟨⟨b, o, h1, h2, h3⟩, h4⟩ := h i hi
  exact ⟨⟨b, o, h1, hd b h2, h3⟩, h4.weaken hd⟩

set_option maxHeartbeats 800000 in
theorem bytes22 (D : Nat → Prop) (ca da : Option Addr) (m cc dn dc : Nat) (A : Nat → Option Addr) (C : Nat → Nat) (Z : Nat → List Int) (w : World) (hR : SlC D w ca m A C Z) (hm : m ≤ maxLen) (hL : ∀ i, (Z i).length ≤ maxLen) (hd : dn ≤ maxLen) :
    Calls Try.prog 22 #[.slice ca m cc, .slice da dn dc] w fun e w' => (∃ r, e = .returned (.bool r)) ∧ w' = w := by
  unfold maxLen at hm hd
  simp only [maxLen] at hL
  by_cases hm2 : (1048576 : Int) < (m : Int)
  · go_enter Try.func22, Try.ntmps22
    go_wp2
    go_ret
    exact ⟨⟨_, rfl⟩, rfl⟩
  · go_enter Try.func22, Try.ntmps22
    go_wp2
    go_loopg [5, 6] m (fun g z i wr => ∃ k : Nat, ∃ t : Int, k ≤ m ∧ g = m - k ∧ i = .int .i64 k ∧ z = .int .i64 t ∧ 0 ≤ t ∧ t ≤ 1048576 ∧ wr = w)
    case atStart => exact ⟨0, m, by omega, rfl, rfl, by go_num, by omega, by omega, rfl⟩
    case round =>
      obtain ⟨k, t, hk, hg, rfl, rfl, ht0, ht1, rfl⟩ := hrel
      by_cases hlt : k < m
      · obtain ⟨⟨b, o, rfl, _, hc⟩, _⟩ := hR k hlt
        have hLk := hL k
        generalize (Z k).length = Lk at *
        go_wp2
        · go_ret; exact ⟨⟨_, rfl⟩, rfl⟩
        · go_ret; exact ⟨⟨_, rfl⟩, rfl⟩
        · go_roundg (m - (k + 1))
          case measure => omega
          case rel => exact ⟨k + 1, t + Lk, by omega, rfl, by go_num, rfl, by omega, by omega, rfl⟩
      · go_wp2
        all_goals (go_ret; exact ⟨⟨_, rfl⟩, rfl⟩)

theorem info23 : (Try.prog.info? 23).map (fun i => (i.zero, i.size, i.bytes)) = some (some (.slice none 0 0), 1, 24) := by kernel_rfl

def up {α : Type} (f : Nat → α) (k : Nat) (x : α) (j : Nat) : α := if j = k then x else f j

def CcPost (m : Nat) (Z : Nat → List Int) (w : World) (e : Ending) (w' : World) : Prop :=
  (∃ a' c' A' C', e = .returned (.slice a' m c') ∧ SlC (NewIn w w') w' a' m A' C' Z) ∧ Below w.heap.size w w'

def CcRel (m : Nat) (Z : Nat → List Int) (w : World) (g : Nat) (iv : Value) (wr : World) : Prop :=
  ∃ (k : Nat) (A' : Nat → Option Addr) (C' : Nat → Nat), k ≤ m ∧ g = m - k ∧ iv = .int .i64 k ∧ wr.rowIs w.heap.size 23 m (fun j => if j < k then .slice (A' j) (Z j).length (C' j) else .slice none 0 0) ∧
    (∀ j, j < k → SlB (fun b => w.heap.size < b ∧ b < wr.heap.size) wr (A' j) (Z j)) ∧ Below w.heap.size w wr

theorem ccrel_step {m : Nat} {Z : Nat → List Int} {w wr w2 : World} {k : Nat} {A' : Nat → Option Addr} {C' : Nat → Nat} (hlt : k < m) (hrow : wr.rowIs w.heap.size 23 m (fun j => if j < k then .slice (A' j) (Z j).length (C' j) else .slice none 0 0))
    (hall : ∀ j, j < k → SlB (fun b => w.heap.size < b ∧ b < wr.heap.size) wr (A' j) (Z j)) (hbel : Below w.heap.size w wr) (hb2 : Below wr.heap.size wr w2) {a2 : Option Addr} {c2 : Nat} (hs : SlB (NewIn wr w2) w2 a2 (Z k)) :
    CcRel m Z w (m - (k + 1)) (.int .i64 ((k : Int) + 1)) (w2.setCell ⟨w.heap.size, k, none⟩ (.slice a2 (Z k).length c2)) := by
  have hlt2 := hrow.lt
  have hr2 := hrow.of_block (hb2.block _ hlt2)
  have hsz : (w2.setCell ⟨w.heap.size, k, none⟩ (.slice a2 (Z k).length c2)).heap.size = w2.heap.size := by simp [World.setCell]
  have hsz2 := hb2.size
  have hE : ∀ b, w.heap.size < b → (w2.setCell ⟨w.heap.size, k, none⟩ (.slice a2 (Z k).length c2)).heap[b]? = w2.heap[b]? := fun b hb => Below.heap_setCell _ _ _ _ (by simp; omega)
  refine ⟨k + 1, up A' k a2, up C' k c2, hlt, rfl, by go_num, (hr2.set k _).congr (fun j _ => ?_), fun j hj => ?_, (hbel.trans (hb2.mono hbel.size)).setCell (by exact Nat.le_refl _) _⟩
  · by_cases e : j = k
    · subst e; simp [up]
    · simp only [up, if_neg e]
      by_cases e2 : j < k
      · rw [if_pos e2, if_pos (by omega)]
      · rw [if_neg e2, if_neg (by omega)]
  · rw [hsz]
    by_cases e : j = k
    · subst e
      simp only [up, if_true]
      refine (hs.weaken (D' := fun b => w.heap.size < b ∧ b < w2.heap.size) (fun b hb => ⟨by have := hb.1; omega, hb.2⟩)).frame (fun b hb => hE b hb.1)
    · simp only [up, if_neg e]
      have h1 := hall j (by omega)
      have h2 : SlB (fun b => w.heap.size < b ∧ b < wr.heap.size) w2 (A' j) (Z j) := h1.frame (fun b hb => hb2.block b hb.2)
      exact (h2.weaken (D' := fun b => w.heap.size < b ∧ b < w2.heap.size) (fun b hb => ⟨hb.1, by omega⟩)).frame (fun b hb => hE b hb.1)

set_option maxHeartbeats 800000 in
theorem cloneAll_any (D : Nat → Prop) (a : Option Addr) (m c : Nat) (A : Nat → Option Addr) (C : Nat → Nat) (Z : Nat → List Int) (w : World) (h : SlC D w a m A C Z) (hD : ∀ b, D b → b < w.heap.size) (ha : a = none → m = 0 ∧ c = 0) (hA : ∀ i, i < m → A i = none → (Z i).length = 0 ∧ C i = 0) (hm : m ≤ 65536) (hL : ∀ i, i < m → (Z i).length ≤ 1048576) :
    Calls Try.prog 23 #[.slice a m c] w fun e w' => CcPost m Z w e w' := by
  have hmk := run_make_row' (P := Try.prog) 38 23 (.slice none 0 0) 24 Try.underlying38 info23 rfl .i64 .i64 m (by omega) (by omega)
  have heq := fun w' => Lib.run_eql_slice_nil (P := Try.prog) w' 38 23 a m c 0 0 Try.underlying38
  cases a with
  | none =>
    obtain ⟨rfl, rfl⟩ := ha rfl
    clear hmk
    go_enter Try.func23, Try.ntmps23
    go_wp2
    go_ret
    exact ⟨⟨none, 0, fun _ => none, fun _ => 0, rfl, fun k hk => by omega⟩, Below.refl _ _⟩
  | some x =>
    clear ha
    have hrow0 := World.rowIs_made w (.slice none 0 0) m 23
    have hb0 : Below w.heap.size w (w.alloc (.cells (madeCells #[.slice none 0 0] m) 23)) := (Below.refl _ _).alloc (Nat.le_refl _) _
    have hst : CcRel m Z w m (.int .i64 0) (w.alloc (.cells (madeCells #[.slice none 0 0] m) 23)) := ⟨0, fun _ => none, fun _ => 0, by omega, rfl, rfl, by simpa using hrow0, fun j hj => by omega, hb0⟩
    go_enter Try.func23, Try.ntmps23
    go_wp2
    go_loopg [4] m (fun g iv wr => CcRel m Z w g iv wr)
    case atStart => exact hst
    case round =>
      clear hrow0 hb0 hmk hst heq
      obtain ⟨k, A', C', hk, hg, rfl, hrow, hall, hbel⟩ := hrel
      have Hg := (show Hid _ from hg)
      have HA := (show Hid _ from hall)
      clear hg hall
      by_cases hlt : k < m
      · obtain ⟨⟨b, o, hx, hDb, hc⟩, hin⟩ := h k hlt
        obtain rfl : x = ⟨b, o, none⟩ := Option.some.inj hx
        have hc' : wr.cell? ⟨b, o + k, none⟩ = some (.slice (A k) (Z k).length (C k)) := (hbel.cell (p := ⟨b, o + k, none⟩) (hD b hDb)).trans hc
        have hin' : SlB D wr (A k) (Z k) := hin.frame (fun b hb => hbel.block b (hD b hb))
        have hDw : ∀ b, D b → b < wr.heap.size := fun b hb => Nat.lt_of_lt_of_le (hD b hb) hbel.size
        have hAk := hA k hlt
        have hLk := hL k hlt
        have hrl := hrow.lt
        clear hc hx hin
        go_wp2_with fail
        refine (clone_any D (A k) (C k) (Z k) wr hin' hDw hAk hLk).mono ?_
        rintro e w2 ⟨⟨a2, c2, rfl, _, _, _, hs⟩, hb2⟩
        have hr2 := hrow.of_block (hb2.block _ hrl)
        have co := hr2.cell hlt
        have zo := hr2.frozen k
        have hnext := ccrel_step (c2 := c2) hlt hrow HA.out hbel hb2 hs
        clear hs hr2
        go_wp2
        go_roundg (m - (k + 1))
        case measure => rw [Hg.out]; omega
        case rel => exact hnext
      · go_wp2
        go_ret
        exact ⟨⟨some ⟨w.heap.size, 0, none⟩, m, A', C', rfl, fun j hj => ⟨⟨w.heap.size, 0, rfl, ⟨Nat.le_refl _, hrow.lt⟩, by rw [Nat.zero_add, hrow.cell hj, if_pos (by omega)]⟩, (HA.out j (by omega)).weaken (fun b hb => ⟨by omega, hb.2⟩)⟩⟩, hbel⟩

end Go.Proofs.Qxb6600403a

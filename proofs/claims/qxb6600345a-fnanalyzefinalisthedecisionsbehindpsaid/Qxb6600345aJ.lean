import Derived.Test.Qxb6600345aI
namespace Go.Proofs.Qxb6600345a
open Go.RowKit
set_option linter.unusedVariables false
set_option linter.unusedSimpArgs false

/-- what is new between w and w' -/
def NewIn (w w' : World) (b : Nat) : Prop := w.heap.size ≤ b ∧ b < w'.heap.size

def CiPost (n : Nat) (z : Nat → Int) (w : World) (e : Ending) (w' : World) : Prop :=
  (∃ a' c', e = .returned (.slice a' n c') ∧ (a' = none → n = 0 ∧ c' = 0) ∧ SlI (NewIn w w') w' a' n z) ∧ Below w.heap.size w w'

set_option maxHeartbeats 800000 in
theorem cloneInt_any (D : Nat → Prop) (a : Option Addr) (n c : Nat) (z : Nat → Int) (w : World) (h : SlI D w a n z) (hD : ∀ b, D b → b < w.heap.size) (ha : a = none → n = 0 ∧ c = 0) (hn : n ≤ 1048576) :
    Calls Try.prog 13 #[.slice a n c] w fun e w' => CiPost n z w e w' := by
  have hmk := run_make_row' (P := Try.prog) 23 21 (.int .i32 0) 4 Try.underlying23 info21 rfl .i64 .i64 n (by omega) (by omega)
  have heq := fun w' => Lib.run_eql_slice_nil (P := Try.prog) w' 23 21 a n c 0 0 Try.underlying23
  cases a with
  | none =>
    obtain ⟨rfl, rfl⟩ := ha rfl
    clear hmk
    go_enter Try.func13, Try.ntmps13
    go_wp2
    go_ret
    exact ⟨⟨none, 0, rfl, fun _ => ⟨rfl, rfl⟩, fun k hk => by omega⟩, Below.refl _ _⟩
  | some x =>
    clear ha
    have hrow0 := World.rowIs_made w (.int .i32 0) n 21
    have hb0 : Below w.heap.size w (w.alloc (.cells (madeCells #[.int .i32 0] n) 21)) := (Below.refl _ _).alloc (Nat.le_refl _) _
    go_enter Try.func13, Try.ntmps13
    go_wp2
    go_loopg [4] n (fun g iv wr => ∃ k : Nat, k ≤ n ∧ g = n - k ∧ iv = .int .i64 k ∧ wr.rowIs w.heap.size 21 n (fun j => .int .i32 (if j < k then z j else 0)) ∧ Below w.heap.size w wr)
    case atStart => exact ⟨0, by omega, rfl, rfl, by simpa using hrow0, hb0⟩
    case round =>
      clear hrow0 hb0 hmk
      obtain ⟨k, hk, hg, rfl, hrow, hbel⟩ := hrel
      have Hg := (show Hid _ from hg)
      clear hg
      by_cases hlt : k < n
      · obtain ⟨b, o, hx, hDb, hc⟩ := h k hlt
        obtain rfl : x = ⟨b, o, none⟩ := Option.some.inj hx
        have hc' : wr.cell? ⟨b, o + k, none⟩ = some (.int .i32 (z k)) := (hbel.cell (p := ⟨b, o + k, none⟩) (hD b hDb)).trans hc
        have co : wr.cell? ⟨w.heap.size, k, none⟩ = some (.int .i32 (if k < k then z k else 0)) := hrow.cell hlt
        have zo := hrow.frozen k
        have hrn : (wr.setCell ⟨w.heap.size, k, none⟩ (.int .i32 (z k))).rowIs w.heap.size 21 n (fun j => .int .i32 (if j < k + 1 then z j else 0)) :=
          (hrow.set k _).congr (fun j _ => by
            by_cases e : j = k
            · subst e; simp
            · simp only [if_neg e]
              by_cases e2 : j < k
              · rw [if_pos e2, if_pos (by omega)]
              · rw [if_neg e2, if_neg (by omega)])
        clear hc hx
        go_wp2
        go_roundg (n - (k + 1))
        case measure => rw [Hg.out]; omega
        case rel => exact ⟨k + 1, by omega, rfl, by go_num, hrn, hbel.setCell (by exact Nat.le_refl _) _⟩
      · go_wp2
        go_ret
        exact ⟨⟨some ⟨w.heap.size, 0, none⟩, n, rfl, (by intro h; cases h), fun j hj => ⟨w.heap.size, 0, rfl, ⟨Nat.le_refl _, hrow.lt⟩, by rw [Nat.zero_add, hrow.cell hj, if_pos (by omega)]⟩⟩, hbel⟩

theorem SlI.weaken {D D' : Nat → Prop} {w : World} {a : Option Addr} {n : Nat} {z : Nat → Int} (h : SlI D w a n z) (hd : ∀ b, D b → D' b) : SlI D' w a n z := fun k hk => by
  obtain ⟨b, o, h1, h2, h3⟩ := h k hk
  exact ⟨b, o, h1, hd b h2, h3⟩

theorem info23 : (Try.prog.info? 23).map (fun i => (i.zero, i.size, i.bytes)) = some (some (.slice none 0 0), 1, 24) := by kernel_rfl

def CcPost (m : Nat) (L : Nat → Nat) (Z : Nat → Nat → Int) (w : World) (e : Ending) (w' : World) : Prop :=
  (∃ a' c' A' C', e = .returned (.slice a' m c') ∧ (a' = none → m = 0 ∧ c' = 0) ∧ SlR (NewIn w w') w' a' m A' L C' Z) ∧ Below w.heap.size w w'

def CcRel (m : Nat) (L : Nat → Nat) (Z : Nat → Nat → Int) (w : World) (g : Nat) (iv : Value) (wr : World) : Prop :=
  ∃ (k : Nat) (A' : Nat → Option Addr) (C' : Nat → Nat), k ≤ m ∧ g = m - k ∧ iv = .int .i64 k ∧ wr.rowIs w.heap.size 23 m (fun j => if j < k then .slice (A' j) (L j) (C' j) else .slice none 0 0) ∧
    (∀ j, j < k → SlI (fun b => w.heap.size < b ∧ b < wr.heap.size) wr (A' j) (L j) (Z j)) ∧ Below w.heap.size w wr

theorem ccrel_step {m : Nat} {L : Nat → Nat} {Z : Nat → Nat → Int} {w wr w2 : World} {k : Nat} {A' : Nat → Option Addr} {C' : Nat → Nat} (hlt : k < m) (hrow : wr.rowIs w.heap.size 23 m (fun j => if j < k then .slice (A' j) (L j) (C' j) else .slice none 0 0))
    (hall : ∀ j, j < k → SlI (fun b => w.heap.size < b ∧ b < wr.heap.size) wr (A' j) (L j) (Z j)) (hbel : Below w.heap.size w wr) (hb2 : Below wr.heap.size wr w2) {a2 : Option Addr} {c2 : Nat} (hs : SlI (NewIn wr w2) w2 a2 (L k) (Z k)) :
    CcRel m L Z w (m - (k + 1)) (.int .i64 ((k : Int) + 1)) (w2.setCell ⟨w.heap.size, k, none⟩ (.slice a2 (L k) c2)) := by
  have hlt2 := hrow.lt
  have hr2 := hrow.of_block (hb2.block _ hlt2)
  have hsz : (w2.setCell ⟨w.heap.size, k, none⟩ (.slice a2 (L k) c2)).heap.size = w2.heap.size := by simp [World.setCell]
  have hsz2 := hb2.size
  have hE : ∀ b, w.heap.size < b → (w2.setCell ⟨w.heap.size, k, none⟩ (.slice a2 (L k) c2)).heap[b]? = w2.heap[b]? := fun b hb => Below.heap_setCell _ _ _ _ (by simp; omega)
  refine ⟨k + 1, up A' k a2, up C' k c2, hlt, rfl, by go_num, (hr2.set k _).congr (fun j _ => ?_), fun j hj => ?_, (hbel.trans (hb2.mono hbel.size)).setCell (by exact Nat.le_refl _) _⟩
  · by_cases e : j = k
    · subst e; simp [up]
    · simp only [up, if_neg e]
      by_cases e2 : j < k
      · rw [if_pos e2, if_pos (by omega)]
      · rw [if_neg e2, if_neg (by omega)]
  · rw [hsz]
    by_cases e : j = k
    · subst e
      simp only [up, if_true]
      refine (hs.weaken (D' := fun b => w.heap.size < b ∧ b < w2.heap.size) (fun b hb => ⟨by have := hb.1; omega, hb.2⟩)).frame (fun b hb => hE b hb.1)
    · simp only [up, if_neg e]
      have h1 := hall j (by omega)
      have h2 : SlI (fun b => w.heap.size < b ∧ b < wr.heap.size) w2 (A' j) (L j) (Z j) := h1.frame (fun b hb => hb2.block b hb.2)
      exact (h2.weaken (D' := fun b => w.heap.size < b ∧ b < w2.heap.size) (fun b hb => ⟨hb.1, by omega⟩)).frame (fun b hb => hE b hb.1)

set_option maxHeartbeats 800000 in
theorem cloneClauses_any (D : Nat → Prop) (a : Option Addr) (m c : Nat) (A : Nat → Option Addr) (L C : Nat → Nat) (Z : Nat → Nat → Int) (w : World) (h : SlR D w a m A L C Z) (hD : ∀ b, D b → b < w.heap.size) (ha : a = none → m = 0 ∧ c = 0) (hA : ∀ i, i < m → A i = none → L i = 0 ∧ C i = 0) (hm : m ≤ 65536) (hL : ∀ i, i < m → L i ≤ 1048576) :
    Calls Try.prog 12 #[.slice a m c] w fun e w' => CcPost m L Z w e w' := by
  have hmk := run_make_row' (P := Try.prog) 22 23 (.slice none 0 0) 24 Try.underlying22 info23 rfl .i64 .i64 m (by omega) (by omega)
  have heq := fun w' => Lib.run_eql_slice_nil (P := Try.prog) w' 22 23 a m c 0 0 Try.underlying22
  cases a with
  | none =>
    obtain ⟨rfl, rfl⟩ := ha rfl
    clear hmk
    go_enter Try.func12, Try.ntmps12
    go_wp2
    go_ret
    exact ⟨⟨none, 0, fun _ => none, fun _ => 0, rfl, fun _ => ⟨rfl, rfl⟩, fun k hk => by omega⟩, Below.refl _ _⟩
  | some x =>
    clear ha
    have hrow0 := World.rowIs_made w (.slice none 0 0) m 23
    have hb0 : Below w.heap.size w (w.alloc (.cells (madeCells #[.slice none 0 0] m) 23)) := (Below.refl _ _).alloc (Nat.le_refl _) _
    have hst : CcRel m L Z w m (.int .i64 0) (w.alloc (.cells (madeCells #[.slice none 0 0] m) 23)) := ⟨0, fun _ => none, fun _ => 0, by omega, rfl, rfl, by simpa using hrow0, fun j hj => by omega, hb0⟩
    go_enter Try.func12, Try.ntmps12
    go_wp2
    go_loopg [4] m (fun g iv wr => CcRel m L Z w g iv wr)
    case atStart => exact hst
    case round =>
      clear hrow0 hb0 hmk hst heq
      obtain ⟨k, A', C', hk, hg, rfl, hrow, hall, hbel⟩ := hrel
      have Hg := (show Hid _ from hg)
      have HA := (show Hid _ from hall)
      clear hg hall
      by_cases hlt : k < m
      · obtain ⟨⟨b, o, hx, hDb, hc⟩, hin⟩ := h k hlt
        obtain rfl : x = ⟨b, o, none⟩ := Option.some.inj hx
        have hc' : wr.cell? ⟨b, o + k, none⟩ = some (.slice (A k) (L k) (C k)) := (hbel.cell (p := ⟨b, o + k, none⟩) (hD b hDb)).trans hc
        have hin' : SlI D wr (A k) (L k) (Z k) := hin.frame (fun b hb => hbel.block b (hD b hb))
        have hDw : ∀ b, D b → b < wr.heap.size := fun b hb => Nat.lt_of_lt_of_le (hD b hb) hbel.size
        have hAk := hA k hlt
        have hLk := hL k hlt
        have hrl := hrow.lt
        clear hc hx hin
        go_wp2_with fail
        refine (cloneInt_any D (A k) (L k) (C k) (Z k) wr hin' hDw hAk hLk).mono ?_
        rintro e w2 ⟨⟨a2, c2, rfl, _, hs⟩, hb2⟩
        have hr2 := hrow.of_block (hb2.block _ hrl)
        have co := hr2.cell hlt
        have zo := hr2.frozen k
        have hnext := ccrel_step (c2 := c2) hlt hrow HA.out hbel hb2 hs
        clear hs hr2
        go_wp2
        go_roundg (m - (k + 1))
        case measure => rw [Hg.out]; omega
        case rel => exact hnext
      · go_wp2
        go_ret
        exact ⟨⟨some ⟨w.heap.size, 0, none⟩, m, A', C', rfl, (by intro h; cases h), fun j hj => ⟨⟨w.heap.size, 0, rfl, ⟨Nat.le_refl _, hrow.lt⟩, by rw [Nat.zero_add, hrow.cell hj, if_pos (by omega)]⟩, (HA.out j (by omega)).weaken (fun b hb => ⟨by omega, hb.2⟩)⟩⟩, hbel⟩
end Go.Proofs.Qxb6600345a

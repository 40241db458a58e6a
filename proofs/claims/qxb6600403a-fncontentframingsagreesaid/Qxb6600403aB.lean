import Derived.Test.Qxb6600403aA
namespace Go.Proofs.Qxb6600403a
open Go.RowKit
set_option linter.unusedVariables false
set_option linter.unusedSimpArgs false

def CloPost (zs : List Int) (w : World) (e : Ending) (w' : World) : Prop :=
  (∃ a' c', e = .returned (.slice a' zs.length c') ∧ (a' = none → zs.length = 0 ∧ c' = 0) ∧ zs.length ≤ c' ∧ c' ≤ 1048576 ∧ SlB (NewIn w w') w' a' zs) ∧ Below w.heap.size w w'

set_option maxHeartbeats 800000 in
theorem clone_any (D : Nat → Prop) (a : Option Addr) (c : Nat) (zs : List Int) (w : World) (h : SlB D w a zs) (hD : ∀ b, D b → b < w.heap.size) (ha : a = none → zs.length = 0 ∧ c = 0) (hn : zs.length ≤ 1048576) :
    Calls Try.prog 11 #[.slice a zs.length c] w fun e w' => CloPost zs w e w' := by
  have hmk := run_make_row' (P := Try.prog) 23 5 (.int .u8 0) 1 Try.underlying23 info5 rfl .i64 .i64 zs.length (by omega) (by omega)
  have heq := fun w' => Lib.run_eql_slice_nil (P := Try.prog) w' 23 5 a zs.length c 0 0 Try.underlying23
  cases a with
  | none =>
    obtain ⟨h0, rfl⟩ := ha rfl
    rw [h0] at heq ⊢
    clear hmk
    go_enter Try.func11, Try.ntmps11
    go_wp2
    go_ret
    exact ⟨⟨none, 0, by rw [h0]; rfl, fun _ => ⟨h0, rfl⟩, by omega, by omega, fun k hk => by omega⟩, Below.refl _ _⟩
  | some x =>
    clear ha
    have hrow0 := World.rowIs_made w (.int .u8 0) zs.length 5
    have hb0 : Below w.heap.size w (w.alloc (.cells (madeCells #[.int .u8 0] zs.length) 5)) := (Below.refl _ _).alloc (Nat.le_refl _) _
    go_enter Try.func11, Try.ntmps11
    go_wp2
    go_loopg [4] zs.length (fun g iv wr => ∃ k : Nat, k ≤ zs.length ∧ g = zs.length - k ∧ iv = .int .i64 k ∧ wr.rowIs w.heap.size 5 zs.length (fun j => .int .u8 (if j < k then zs.getD j 0 else 0)) ∧ Below w.heap.size w wr)
    case atStart => exact ⟨0, by omega, rfl, rfl, by simpa using hrow0, hb0⟩
    case round =>
      clear hrow0 hb0 hmk
      obtain ⟨k, hk, hg, rfl, hrow, hbel⟩ := hrel
      have Hg := (show Hid _ from hg)
      clear hg
      by_cases hlt : k < zs.length
      · obtain ⟨b, o, hx, hDb, hc⟩ := h k hlt
        obtain rfl : x = ⟨b, o, none⟩ := Option.some.inj hx
        have hc' : wr.cell? ⟨b, o + k, none⟩ = some (.int .u8 (zs.getD k 0)) := (hbel.cell (p := ⟨b, o + k, none⟩) (hD b hDb)).trans hc
        have co : wr.cell? ⟨w.heap.size, k, none⟩ = some (.int .u8 (if k < k then zs.getD k 0 else 0)) := hrow.cell hlt
        have zo := hrow.frozen k
        have hrn : (wr.setCell ⟨w.heap.size, k, none⟩ (.int .u8 (zs.getD k 0))).rowIs w.heap.size 5 zs.length (fun j => .int .u8 (if j < k + 1 then zs.getD j 0 else 0)) :=
          (hrow.set k _).congr (fun j _ => by
            by_cases e : j = k
            · subst e; simp
            · simp only [if_neg e]
              by_cases e2 : j < k
              · rw [if_pos e2, if_pos (by omega)]
              · rw [if_neg e2, if_neg (by omega)])
        clear hc hx
        generalize zs.getD k 0 = zk at *
        go_wp2
        go_roundg (zs.length - (k + 1))
        case measure => rw [Hg.out]; omega
        case rel => exact ⟨k + 1, by omega, rfl, by go_num, hrn, hbel.setCell (by exact Nat.le_refl _) _⟩
      · go_wp2
        go_ret
        exact ⟨⟨some ⟨w.heap.size, 0, none⟩, zs.length, rfl, (by intro h; cases h), Nat.le_refl _, hn, fun j hj => ⟨w.heap.size, 0, rfl, ⟨Nat.le_refl _, hrow.lt⟩, by rw [Nat.zero_add, hrow.cell hj, if_pos (by omega)]⟩⟩, hbel⟩

/-- xs and ys one after the other, cell by cell -/
theorem getD_app (xs ys : List Int) (j : Nat) : (xs ++ ys).getD j 0 = if j < xs.length then xs.getD j 0 else ys.getD (j - xs.length) 0 := by
  by_cases h : j < xs.length
  · simp [List.getD, List.getElem?_append, h]
  · simp [List.getD, List.getElem?_append, h]

def CatPost (xs ys : List Int) (w : World) (e : Ending) (w' : World) : Prop :=
  e = .returned (.slice (some ⟨w.heap.size, 0, none⟩) (xs ++ ys).length (xs ++ ys).length) ∧ RowB w' w.heap.size (xs ++ ys) ∧ Below w.heap.size w w'

set_option maxHeartbeats 800000 in
theorem concat_any (D : Nat → Prop) (a a2 : Option Addr) (c c2 : Nat) (xs ys : List Int) (w : World) (h : SlB D w a xs) (h2 : SlB D w a2 ys) (hD : ∀ b, D b → b < w.heap.size) (hn : xs.length ≤ 2097152) (hn2 : ys.length ≤ 2097152) :
    Calls Try.prog 14 #[.slice a xs.length c, .slice a2 ys.length c2] w fun e w' => CatPost xs ys w e w' := by
  have hmk := run_make_row' (P := Try.prog) 23 5 (.int .u8 0) 1 Try.underlying23 info5 rfl .i64 .i64 (xs.length + ys.length) (by omega) (by omega)
  have hrow0 := World.rowIs_made w (.int .u8 0) (xs.length + ys.length) 5
  have hb0 : Below w.heap.size w (w.alloc (.cells (madeCells #[.int .u8 0] (xs.length + ys.length)) 5)) := (Below.refl _ _).alloc (Nat.le_refl _) _
  have hcast : ((xs.length + ys.length : Nat) : Int) = (xs.length : Int) + (ys.length : Int) := by omega
  rw [hcast] at hmk
  go_enter Try.func14, Try.ntmps14
  go_wp2
  go_loopg [6] xs.length (fun g iv wr => ∃ k : Nat, k ≤ xs.length ∧ g = xs.length - k ∧ iv = .int .i64 k ∧ wr.rowIs w.heap.size 5 (xs.length + ys.length) (fun j => .int .u8 (if j < k then (xs ++ ys).getD j 0 else 0)) ∧ Below w.heap.size w wr)
  case atStart => exact ⟨0, by omega, rfl, rfl, by simpa using hrow0, hb0⟩
  case round =>
    clear hrow0 hb0 hmk
    obtain ⟨k, hk, hg, rfl, hrow, hbel⟩ := hrel
    have Hg := (show Hid _ from hg)
    clear hg
    by_cases hlt : k < xs.length
    · obtain ⟨b, o, hx, hDb, hc⟩ := h k hlt
      subst hx
      have hc' : wr.cell? ⟨b, o + k, none⟩ = some (.int .u8 ((xs ++ ys).getD k 0)) := by rw [getD_app, if_pos hlt]; exact (hbel.cell (p := ⟨b, o + k, none⟩) (hD b hDb)).trans hc
      have co : wr.cell? ⟨w.heap.size, k, none⟩ = some (.int .u8 (if k < k then (xs ++ ys).getD k 0 else 0)) := hrow.cell (by omega)
      have zo := hrow.frozen k
      have hrn : (wr.setCell ⟨w.heap.size, k, none⟩ (.int .u8 ((xs ++ ys).getD k 0))).rowIs w.heap.size 5 (xs.length + ys.length) (fun j => .int .u8 (if j < k + 1 then (xs ++ ys).getD j 0 else 0)) :=
        (hrow.set k _).congr (fun j _ => by
          by_cases e : j = k
          · subst e; simp
          · simp only [if_neg e]
            by_cases e2 : j < k
            · rw [if_pos e2, if_pos (by omega)]
            · rw [if_neg e2, if_neg (by omega)])
      clear hc
      generalize (xs ++ ys).getD k 0 = zk at *
      go_wp2
      go_roundg (xs.length - (k + 1))
      case measure => rw [Hg.out]; omega
      case rel => exact ⟨k + 1, by omega, rfl, by go_num, hrn, hbel.setCell (by exact Nat.le_refl _) _⟩
    · obtain rfl : k = xs.length := by omega
      have HR := hide hrow
      have HB := hide hbel
      clear hrow hbel
      obtain ⟨wo, hwo⟩ : ∃ wo : World, wo = wr := ⟨_, rfl⟩
      subst hwo
      go_wp2
      go_loopg [7] ys.length (fun g iv wr => ∃ k : Nat, k ≤ ys.length ∧ g = ys.length - k ∧ iv = .int .i64 k ∧ wr.rowIs w.heap.size 5 (xs.length + ys.length) (fun j => .int .u8 (if j < xs.length + k then (xs ++ ys).getD j 0 else 0)) ∧ Below w.heap.size w wr)
      case atStart => exact ⟨0, by omega, rfl, rfl, HR.out, HB.out⟩
      case round =>
        clear HR HB
        obtain ⟨k, hk, hg, rfl, hrow, hbel⟩ := hrel
        have Hg := (show Hid _ from hg)
        clear hg
        by_cases hlt : k < ys.length
        · obtain ⟨b, o, hx, hDb, hc⟩ := h2 k hlt
          subst hx
          have hc' : wr.cell? ⟨b, o + k, none⟩ = some (.int .u8 ((xs ++ ys).getD (xs.length + k) 0)) := by rw [getD_app, if_neg (by omega), Nat.add_sub_cancel_left]; exact (hbel.cell (p := ⟨b, o + k, none⟩) (hD b hDb)).trans hc
          have co : wr.cell? ⟨w.heap.size, xs.length + k, none⟩ = some (.int .u8 (if xs.length + k < xs.length + k then (xs ++ ys).getD (xs.length + k) 0 else 0)) := hrow.cell (by omega)
          have zo := hrow.frozen (xs.length + k)
          have hrn : (wr.setCell ⟨w.heap.size, xs.length + k, none⟩ (.int .u8 ((xs ++ ys).getD (xs.length + k) 0))).rowIs w.heap.size 5 (xs.length + ys.length) (fun j => .int .u8 (if j < xs.length + (k + 1) then (xs ++ ys).getD j 0 else 0)) :=
            (hrow.set (xs.length + k) _).congr (fun j _ => by
              by_cases e : j = xs.length + k
              · subst e; simp
              · simp only [if_neg e]
                by_cases e2 : j < xs.length + k
                · rw [if_pos e2, if_pos (by omega)]
                · rw [if_neg e2, if_neg (by omega)])
          clear hc
          generalize (xs ++ ys).getD (xs.length + k) 0 = zk at *
          go_wp2
          go_roundg (ys.length - (k + 1))
          case measure => rw [Hg.out]; omega
          case rel => exact ⟨k + 1, by omega, rfl, by go_num, hrn, hbel.setCell (by exact Nat.le_refl _) _⟩
        · obtain rfl : k = ys.length := by omega
          go_wp2
          go_ret
          refine ⟨by simp, ?_, hbel⟩
          unfold RowB
          rw [List.length_append]
          exact hrow.congr fun j hj => by rw [if_pos hj]

set_option maxHeartbeats 800000 in
theorem equal_any (D D2 : Nat → Prop) (a a2 : Option Addr) (c c2 : Nat) (xs : List Int) (w : World) (h : SlB D w a xs) (h2 : SlB D2 w a2 xs) (hn : xs.length ≤ 1099511627776) :
    Calls Try.prog 17 #[.slice a xs.length c, .slice a2 xs.length c2] w fun e w' => e = .returned (.bool true) ∧ ∃ q, w' = w.drewN q := by
  have hne : ((xs.length : Int) != (xs.length : Int)) = false := by simp
  go_enter Try.func17, Try.ntmps17
  go_wp2
  go_loopg [5] xs.length (fun g iv wr => ∃ k q : Nat, k ≤ xs.length ∧ g = xs.length - k ∧ iv = .int .i64 k ∧ wr = w.drewN q)
  case atStart => exact ⟨0, 0, by omega, rfl, rfl, rfl⟩
  case round =>
    obtain ⟨k, q, hk, hg, rfl, rfl⟩ := hrel
    have Hg := hide hg
    clear hg
    by_cases hlt : k < xs.length
    · obtain ⟨b, o, hx, hDb, hc⟩ := h k hlt
      obtain ⟨b2, o2, hx2, hDb2, hc2⟩ := h2 k hlt
      subst hx hx2
      have c1 : (w.drewN q).cell? ⟨b, o + k, none⟩ = some (.int .u8 (xs.getD k 0)) := hc
      have c2 : (w.drewN q).cell? ⟨b2, o2 + k, none⟩ = some (.int .u8 (xs.getD k 0)) := hc2
      clear hc hc2
      generalize xs.getD k 0 = zk at *
      have hzz : (zk != zk) = false := by simp
      generalize hw9 : w.drewN q = w9 at *
      have Hw9 := hide hw9
      clear hw9
      go_wp2_with fail
      go_quiet (fail)
      go_wp2_with fail
      go_roundg (xs.length - (k + 1))
      case measure => rw [Hg.out]; omega
      case rel => exact ⟨k + 1, _, by omega, rfl, by go_num, by rw [← Hw9.out, World.drewN_drewN]⟩
    · go_wp2
      go_ret
      exact ⟨rfl, q, rfl⟩

end Go.Proofs.Qxb6600403a

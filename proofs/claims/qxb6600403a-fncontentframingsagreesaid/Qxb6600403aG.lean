import Derived.Test.Qxb6600403aF
namespace Go.Proofs.Qxb6600403a
open Go.RowKit
set_option linter.unusedVariables false
set_option linter.unusedSimpArgs false

/-- the widths that a law reckons, and the one that it takes -/
theorem widths (x : Int) (v : Nat) (hx : 0 ≤ x ∧ x < 256) (hv : v < 4611686018427387904) : ∃ l m1 m2 : Nat,
    (∀ w, Calls Try.prog 12 #[.int .u8 x] w fun e w' => e = .returned (.int .i64 (m1 : Int)) ∧ w' = w) ∧
    (∀ w, Calls Try.prog 13 #[.int .u64 (v : Int)] w fun e w' => e = .returned (.int .i64 (m2 : Int)) ∧ w' = w) ∧
    ((decide ((m1 : Int) < (m2 : Int)) = true ∧ m1 < m2 ∧ l = m2) ∨ (decide ((m1 : Int) < (m2 : Int)) = false ∧ m2 ≤ m1 ∧ l = m1)) ∧ IsW l ∧ v < 2 ^ (8 * l - 2) := by
  refine ⟨wid x v, wof x, minw v, widthOf_any x hx, minWidth_any v, ?_, isW_wid x v, wid_ok hv⟩
  by_cases hlt : wof x < minw v
  · exact .inl ⟨decide_eq_true (by omega), hlt, if_pos hlt⟩
  · exact .inr ⟨decide_eq_false (by omega), by omega, if_neg hlt⟩

set_option maxHeartbeats 800000 in
theorem law3 (v : Nat) (x : Int) (a : Option Addr) (c : Nat) (zs : List Int) (w : World) (hv : v < 18446744073709551616) (hx : 0 ≤ x ∧ x < 256) (h : InB w a c zs) :
    Calls Try.prog 3 #[.int .u64 (v : Int), .int .u8 x, .slice a zs.length c] w fun e w' => LawPost w e w' := by
  have hm := h.len
  unfold maxLen at hm
  have hB9 := bytes9 (v : Int) x a zs.length c h.len w
  by_cases hlen : zs.length ≤ 1048576
  · have hb1 : decide ((1048576 : Int) < (zs.length : Int)) = false := decide_eq_false (by omega)
    by_cases hv2 : v < 4611686018427387904
    · have hb2 : decide ((4611686018427387904 : Int) ≤ (v : Int)) = false := decide_eq_false (by omega)
      have hcl := clone_any _ a c zs w h.sl (fun b hb => hb) h.nil hlen
      have Hcl := hide hcl
      clear hcl
      go_enter Try.func3, Try.ntmps3
      go_wp2_with (first | (go_at_call 9; refine hB9.mono ?_; rintro e w' ⟨⟨r, rfl⟩, rfl⟩) | (go_at_call 10; refine (pow2_62 _).mono ?_; rintro e w' ⟨rfl, rfl⟩))
      · go_ret
        exact ⟨rfl, Below.refl _ _⟩
      · rename_i w0 _ _ _
        refine Hcl.out.mono ?_
        rintro e w1 ⟨⟨a', c', rfl, hnil, hcc, hc2, hsl⟩, hbel⟩
        clear Hcl hB9 h
        obtain ⟨l, m1, m2, hW1, hW2, hcs, hbt, hok⟩ := widths x v hx hv2
        have HW1 := hide hW1
        have HW2 := hide hW2
        have hw8 : 1 ≤ l ∧ l ≤ 8 := by rcases hbt with h | h | h | h <;> omega
        have Hen := hide (encode_any v l hbt hok w1)
        clear hW1 hW2
        rcases hcs with ⟨hd, hd2, he⟩ | ⟨hd, hd2, he⟩
        all_goals
          subst he
          go_wp2_with (first | (go_at_call 12; refine (HW1.out _).mono ?_; rintro e w' ⟨rfl, hw9⟩; have hw8 := hw9.symm; clear hw9; subst hw8) | (go_at_call 13; refine (HW2.out _).mono ?_; rintro e w' ⟨rfl, hw9⟩; have hw8 := hw9.symm; clear hw9; subst hw8))
          refine Hen.out.mono ?_
          rintro e w2 ⟨rfl, hr2, hbe2⟩
          clear Hen HW1 HW2
          have hsl2 : SlB (fun b => b < w2.heap.size) w2 a' zs := (hsl.frame (fun b hb => hbe2.block b hb.2)).weaken (fun b hb => Nat.lt_of_lt_of_le hb.2 hbe2.size)
          have hcat := concat_any (fun b => b < w2.heap.size) (some ⟨w1.heap.size, 0, none⟩) a' l c' (enc v l) zs w2 (hr2.sl hr2.lt) hsl2 (fun b hb => hb) (by rw [enc_length]; omega) (by omega)
          rw [enc_length] at hcat
          have Hcat := hide hcat
          have Hbe := hide (hbel.trans (hbe2.mono hbel.size))
          clear hcat hr2 hsl hbe2 hbel
          go_wp2_with fail
          refine Hcat.out.mono ?_
          rintro e w3 ⟨rfl, hr3, hbe3⟩
          clear Hcat
          have hzv := zzVarint hbt hok (Nat.le_refl _) hr3.lies hr3.lt (by omega)
          have hsl3 : SlB (fun b => b < w3.heap.size) w3 a' zs := (hsl2.frame (fun b hb => hbe3.block b hb)).weaken (fun b hb => Nat.lt_of_lt_of_le hb hbe3.size)
          have Hzv := hide hzv
          have Hbe3 := hide (Hbe.out.trans (hbe3.mono Hbe.out.size))
          clear hzv hr3 hbe3 hsl2 Hbe
          generalize (enc v l ++ zs).length = nn at *
          go_wp2_with fail
          refine Hzv.out.mono ?_
          rintro e w4 ⟨o2, cap2, rfl, hl4, hbe4⟩
          have hsl4 : SlB (fun b => b < w3.heap.size) w4 a' zs := hsl3.frame (fun b hb => hbe4.block b hb)
          have Heq := hide (equal_any (fun _ => True) _ (some ⟨w2.heap.size, o2, none⟩) a' cap2 c' zs w4 (hl4.sl trivial) hsl4 (by omega))
          have Hbe4 := hide (Hbe3.out.trans (hbe4.mono Hbe3.out.size))
          clear Hzv hsl3 hsl4 hl4 hbe4 Hbe3
          have hvv : ((v : Int) == (v : Int)) = true := by simp
          go_wp2_with fail
          refine Heq.out.mono ?_
          rintro e w5 ⟨rfl, q, rfl⟩
          go_wp2_with fail
          go_ret
          exact ⟨rfl, Below.drewN Hbe4.out q⟩
    · have hb2 : decide ((4611686018427387904 : Int) ≤ (v : Int)) = true := decide_eq_true (by omega)
      go_enter Try.func3, Try.ntmps3
      go_wp2_with (first | (go_at_call 9; refine hB9.mono ?_; rintro e w' ⟨⟨r, rfl⟩, rfl⟩) | (go_at_call 10; refine (pow2_62 _).mono ?_; rintro e w' ⟨rfl, rfl⟩))
      all_goals (go_ret; exact ⟨rfl, Below.refl _ _⟩)
  · have hb1 : decide ((1048576 : Int) < (zs.length : Int)) = true := decide_eq_true (by omega)
    go_enter Try.func3, Try.ntmps3
    go_wp2_with (first | (go_at_call 9; refine hB9.mono ?_; rintro e w' ⟨⟨r, rfl⟩, rfl⟩))
    all_goals (go_ret; exact ⟨rfl, Below.refl _ _⟩)
end Go.Proofs.Qxb6600403a

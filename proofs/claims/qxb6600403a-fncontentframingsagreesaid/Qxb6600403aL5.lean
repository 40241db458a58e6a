import Derived.Test.Qxb6600403aG
namespace Go.Proofs.Qxb6600403a
open Go.RowKit
set_option linter.unusedVariables false
set_option linter.unusedSimpArgs false

/-- bytes that lie in memory that is there -/
def Kept (w : World) (a : Option Addr) (zs : List Int) : Prop := SlB (fun b => b < w.heap.size) w a zs
theorem Kept.on {w w' : World} {a : Option Addr} {zs : List Int} (h : Kept w a zs) (hb : Below w.heap.size w w') : Kept w' a zs :=
  (h.frame (fun b hb' => hb.block b hb')).weaken (fun b hb' => Nat.lt_of_lt_of_le hb' hb.size)
theorem kept_clone {w w' : World} {a : Option Addr} {zs : List Int} (h : SlB (NewIn w w') w' a zs) : Kept w' a zs := h.weaken (fun b hb => hb.2)
theorem RowB.kept {w : World} {b : Nat} {zs : List Int} (h : RowB w b zs) : Kept w (some ⟨b, 0, none⟩) zs := h.sl h.lt
theorem Lies.kept {w : World} {b o : Nat} {zs : List Int} (h : Lies w b o zs) (hb : b < w.heap.size) : Kept w (some ⟨b, o, none⟩) zs := h.sl hb
theorem Kept.drewN {w : World} {a : Option Addr} {zs : List Int} (h : Kept w a zs) (q : Nat) : Kept (w.drewN q) a zs := h

theorem clone_kept {a : Option Addr} {c : Nat} {zs : List Int} {w : World} (h : Kept w a zs) (ha : a = none → zs.length = 0 ∧ c = 0) (hn : zs.length ≤ 1048576) :
    Calls Try.prog 11 #[.slice a zs.length c] w fun e w' => CloPost zs w e w' := clone_any _ a c zs w h (fun _ hb => hb) ha hn
theorem concat_kept {a a2 : Option Addr} {c c2 : Nat} {xs ys : List Int} {w : World} (h : Kept w a xs) (h2 : Kept w a2 ys) (hn : xs.length ≤ 2097152) (hn2 : ys.length ≤ 2097152) :
    Calls Try.prog 14 #[.slice a xs.length c, .slice a2 ys.length c2] w fun e w' => CatPost xs ys w e w' := concat_any _ a a2 c c2 xs ys w h h2 (fun _ hb => hb) hn hn2
theorem equal_kept {a a2 : Option Addr} {c c2 : Nat} {xs : List Int} {w : World} (h : Kept w a xs) (h2 : Kept w a2 xs) (hn : xs.length ≤ 1099511627776) :
    Calls Try.prog 17 #[.slice a xs.length c, .slice a2 xs.length c2] w fun e w' => e = .returned (.bool true) ∧ ∃ q, w' = w.drewN q := equal_any _ _ a a2 c c2 xs w h h2 hn

/-- one step more: all below the first heap stands -/
theorem Below.step {w0 w w' : World} (h : Below w0.heap.size w0 w) (k : Below w.heap.size w w') : Below w0.heap.size w0 w' := h.trans (k.mono h.size)

set_option maxHeartbeats 800000 in
theorem law5 (x : Int) (a a2 : Option Addr) (c c2 : Nat) (ps zs : List Int) (w : World) (hx : 0 ≤ x ∧ x < 256) (h : InB w a c ps) (h2 : InB w a2 c2 zs) :
    Calls Try.prog 5 #[.slice a ps.length c, .int .u8 x, .slice a2 zs.length c2] w fun e w' => LawPost w e w' := by
  have hm := h.len
  have hm2 := h2.len
  unfold maxLen at hm hm2
  have hB9 := bytes19 x a a2 ps.length c zs.length c2 h.len h2.len w
  by_cases hlen : ps.length ≤ 1048576 ∧ zs.length ≤ 1048576 ∧ ps.length + zs.length ≤ 1048576
  · obtain ⟨hl1, hl2, hl3⟩ := hlen
    have hb1 : decide ((1048576 : Int) < (ps.length : Int)) = false := decide_eq_false (by omega)
    have hb2 : decide ((1048576 : Int) < (zs.length : Int)) = false := decide_eq_false (by omega)
    have hb3 : decide ((1048576 : Int) < (ps.length : Int) + (zs.length : Int)) = false := decide_eq_false (by omega)
    have Hcl := hide (clone_kept (w := w) h.sl h.nil hl1)
    have Hk2 := hide h2
    go_enter Try.func5, Try.ntmps5
    go_wp2_with (first | (go_at_call 19; refine hB9.mono ?_; rintro e w' ⟨⟨r, rfl⟩, hw9⟩; have hw8 := hw9.symm; clear hw9; subst hw8))
    · go_ret
      exact ⟨rfl, Below.refl _ _⟩
    · refine Hcl.out.mono ?_
      rintro e w1 ⟨⟨a', c', rfl, hnil, hcc, hc2, hsl⟩, hbel⟩
      clear Hcl hB9 h
      have Hcl2 := hide (clone_kept (c := c2) (Kept.on (w := w) h2.sl hbel) h2.nil hl2)
      clear h2
      go_wp2_with fail
      refine Hcl2.out.mono ?_
      rintro e w2 ⟨⟨a2', c2', rfl, hnil2, hcc2, hc22, hsl2⟩, hbel2⟩
      clear Hcl2
      have kp := (kept_clone hsl).on hbel2
      have kz := kept_clone hsl2
      have hbe := Below.step hbel hbel2
      clear hsl hsl2 hbel hbel2
      obtain ⟨l, m1, m2, hW1, hW2, hcs, hbt, hok⟩ := widths x ps.length hx (by omega)
      have HW1 := hide hW1
      have HW2 := hide hW2
      have hw8 : 1 ≤ l ∧ l ≤ 8 := by rcases hbt with h | h | h | h <;> omega
      have Hen := hide (encode_any ps.length l hbt hok w2)
      clear hW1 hW2
      rcases hcs with ⟨hd, hd2, he⟩ | ⟨hd, hd2, he⟩
      all_goals
        subst he
        go_wp2_with (first | (go_at_call 12; refine (HW1.out _).mono ?_; rintro e w' ⟨rfl, hw9⟩; have hw8 := hw9.symm; clear hw9; subst hw8) | (go_at_call 13; refine (HW2.out _).mono ?_; rintro e w' ⟨rfl, hw9⟩; have hw8 := hw9.symm; clear hw9; subst hw8))
        refine Hen.out.mono ?_
        rintro e w3 ⟨rfl, hr3, hbe3⟩
        clear Hen HW1 HW2
        have kp3 := kp.on hbe3
        have kz3 := kz.on hbe3
        have hcat := concat_kept (c := l) (c2 := c') hr3.kept kp3 (by rw [enc_length]; omega) (by omega)
        rw [enc_length] at hcat
        have Hcat := hide hcat
        have hb03 := Below.step hbe hbe3
        clear hcat hr3 kp kz hbe3 hbe
        go_wp2_with fail
        refine Hcat.out.mono ?_
        rintro e w4 ⟨rfl, hr4, hbe4⟩
        clear Hcat
        have kp4 := kp3.on hbe4
        have kz4 := kz3.on hbe4
        have hb04 := Below.step hb03 hbe4
        have hml : (enc ps.length l ++ ps).length ≤ 2097152 := by rw [List.length_append, enc_length]; omega
        clear kp3 kz3 hbe4 hb03
        generalize hms : enc ps.length l ++ ps = ms at *
        have Hms := hide hms
        clear hms
        have Hcat := hide (concat_kept (c := ms.length) (c2 := c2') hr4.kept kz4 hml (by omega))
        clear hr4
        go_wp2_with fail
        refine Hcat.out.mono ?_
        rintro e w5 ⟨rfl, hr5, hbe5⟩
        clear Hcat
        rw [← Hms.out, List.append_assoc] at hr5 ⊢
        have kp5 := kp4.on hbe5
        have kz5 := kz4.on hbe5
        have hb05 := Below.step hb04 hbe5
        have hlt := hr5.lt
        have Hzv := hide (zzVector hbt hok (Nat.le_refl _) hr5.lies hr5.lt (by rw [List.length_append]; omega))
        clear hr5 kp4 kz4 hbe5 hb04
        generalize (enc ps.length l ++ (ps ++ zs)).length = nn at *
        go_wp2_with fail
        refine Hzv.out.mono ?_
        rintro e w6 ⟨o1, o2, cap2, rfl, hl6, hl6', hbe6⟩
        clear Hzv
        have hlt6 := Nat.lt_of_lt_of_le hlt hbe6.size
        have Heq := hide (equal_kept (c := ps.length) (c2 := c') (hl6.kept hlt6) (kp5.on hbe6) (by omega))
        have kz6 := kz5.on hbe6
        have hb06 := Below.step hb05 hbe6
        clear kp5 kz5 hbe6 hb05 hl6 hlt
        go_wp2_with fail
        refine Heq.out.mono ?_
        rintro e w7 ⟨rfl, q, rfl⟩
        clear Heq
        have Heq := hide (equal_kept (w := w6.drewN q) (c := cap2) (c2 := c2') ((hl6'.kept hlt6).drewN q) (kz6.drewN q) (by omega))
        have hb07 := Below.drewN hb06 q
        clear hl6' kz6 hlt6 hb06
        generalize w6.drewN q = w7 at *
        go_wp2_with fail
        refine Heq.out.mono ?_
        rintro e w8 ⟨rfl, q, rfl⟩
        clear Heq
        go_wp2_with fail
        go_ret
        exact ⟨rfl, Below.drewN hb07 q⟩
  · clear h h2
    go_enter Try.func5, Try.ntmps5
    go_wp2_with (first | (go_at_call 19; refine hB9.mono ?_; rintro e w' ⟨⟨r, rfl⟩, hw9⟩; have hw8 := hw9.symm; clear hw9; subst hw8))
    all_goals (go_ret; exact ⟨rfl, Below.refl _ _⟩)
end Go.Proofs.Qxb6600403a

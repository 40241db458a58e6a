import Derived.Test.Qxb6600345aQ
namespace Go.Proofs.Qxb6600345a
open Go.RowKit
set_option linter.unusedVariables false
set_option linter.unusedSimpArgs false

def L3Rel (nn m : Nat) (L : Nat → Nat) (Z : Nat → Nat → Int) (w3 : World) (mb sb dn : Nat) (g : Nat) (iv : Value) (wr : World) : Prop :=
  ∃ (i : Nat) (σ : St) (Tr : Nat → Nat), i ≤ dn ∧ g = dn - i ∧ iv = .int .i64 i ∧ Rep nn m L w3.heap.size none Tr wr sb σ ∧ Base nn m L Z σ ∧ WInv nn m σ 0 [] ∧ σ.qh = σ.tr.length ∧ wr.rowIs mb 31 nn (fun v => .int .i8 (σ.av v)) ∧ Tr mb = 0 ∧ Grew (fun _ => 0) Tr w3 wr

set_option maxRecDepth 100000 in
set_option maxHeartbeats 4000000 in
theorem law3 (n : Int) (ca da : Option Addr) (m cc dn dc : Nat) (A : Nat → Option Addr) (L C : Nat → Nat) (Z : Nat → Nat → Int) (dz : Nat → Int) (w : World) (hin : Ins w ca da m cc dn dc A L C Z dz) :
    Calls Try.prog 3 #[.int .i64 n, .slice ca m cc, .slice da dn dc] w fun e w' => LawPost w e w' := by
  go_enter Try.func3, Try.ntmps3
  go_wp2_with fail
  refine (bytes9 (fun b => b < w.heap.size) n ca da m cc dn dc A L C Z w hin.R hin.m1 hin.L1 hin.d1).mono ?_
  rintro e w' ⟨⟨r, rfl⟩, hw9⟩
  have hw8 := hw9.symm
  clear hw9
  subst hw8
  cases r
  · go_wp2
    go_ret
    exact ⟨rfl, Below.refl _ _⟩
  go_wp2_with fail
  refine (bytesWithin_any (fun b => b < w.heap.size) ca da m cc dn dc A L C Z w hin.R hin.m1 hin.L1 hin.d1).mono ?_
  rintro e w' ⟨⟨r, rfl, hbw⟩, hw9⟩
  have hw8 := hw9.symm
  clear hw9
  subst hw8
  cases r
  · go_wp2
    go_ret
    exact ⟨rfl, Below.refl _ _⟩
  have hLb := hbw rfl
  have hm1 := hin.m1
  have hd1 := hin.d1
  unfold maxLen at hm1 hd1
  have HLb := hide hLb
  clear hLb hbw
  by_cases hm2 : (65536 : Int) < (m : Int)
  · go_wp2
    go_ret
    exact ⟨rfl, Below.refl _ _⟩
  by_cases hd2 : (262144 : Int) < (dn : Int)
  · go_wp2
    go_ret
    exact ⟨rfl, Below.refl _ _⟩
  by_cases hn1 : n < 1
  · go_wp2
    go_ret
    exact ⟨rfl, Below.refl _ _⟩
  by_cases hn2 : 4096 < n
  · go_wp2
    go_ret
    exact ⟨rfl, Below.refl _ _⟩
  go_wp2_with fail
  refine (wellFormed_any (fun b => b < w.heap.size) n ca da m cc dn dc A L C Z dz w hin.R hin.I (fun b hb => hb) (by omega) hin.L1 (by omega) hin.zb hin.db).mono ?_
  rintro e w1 ⟨⟨r, rfl, hwf⟩, hb1⟩
  cases r
  · go_wp2
    go_ret
    exact ⟨rfl, hb1⟩
  obtain ⟨nn, rfl, hnn1, hnn2, hcl, hdz⟩ := hwf rfl
  clear hwf
  have hf : Form nn m L Z := ⟨hnn2, by omega, fun i hi => (hcl i hi).1, fun i hi => HLb.out i hi, fun i hi k hk => (hcl i hi).2.1 k hk, fun i hi => (hcl i hi).2.2⟩
  have Hdz := hide hdz
  clear hcl hdz
  go_wp2_with fail
  refine (cloneClauses_any (fun b => b < w.heap.size) ca m cc A L C Z w1 (hin.R.frame (fun b hb => hb1.block b hb)) (fun b hb => Nat.lt_of_lt_of_le hb hb1.size) hin.cn hin.an (by omega) (fun i hi => HLb.out i hi)).mono ?_
  rintro e w2 ⟨⟨ca', cc', A', C', rfl, _, hR2⟩, hb2⟩
  go_wp2_with fail
  refine (cloneInt_any (fun b => b < w.heap.size) da dn dc dz w2 (hin.I.frame (fun b hb => ((hb1.trans (hb2.mono hb1.size)).block b hb))) (fun b hb => Nat.lt_of_lt_of_le hb (Nat.le_trans hb1.size hb2.size)) hin.dnil (by omega)).mono ?_
  rintro e w3 ⟨⟨da', dc', rfl, _, hI3⟩, hb3⟩
  have hR3 : SlR (fun b => b < w3.heap.size) w3 ca' m A' L C' Z := fun i hi => by
    have hs := hb3.size
    obtain ⟨⟨b, o, h1, h2, h3⟩, h4⟩ := (hR2.frame (w' := w3) (fun b hb => hb3.block b hb.2)) i hi
    exact ⟨⟨b, o, h1, Nat.lt_of_lt_of_le h2.2 hs, h3⟩, h4.weaken (fun b hb => Nat.lt_of_lt_of_le hb.2 hs)⟩
  have hI4 : SlI (fun b => b < w3.heap.size) w3 da' dn dz := hI3.weaken (fun b hb => hb.2)
  have hb03 : Below w.heap.size w w3 := (hb1.trans (hb2.mono hb1.size)).trans (hb3.mono (Nat.le_trans hb1.size hb2.size))
  clear hR2 hI3 hb1 hb2 hb3 HLb
  go_wp2_with fail
  refine (build_any (fun b => b < w3.heap.size) nn m ca' cc' A' L C' Z w3 hR3 (fun b hb => hb) hf).mono ?_
  rintro e w4 ⟨sb, T, rfl, hRep, hG⟩
  obtain ⟨hb0, hw0⟩ := init_ok hf
  have hmk := run_make_row' (P := Try.prog) 30 31 (.int .i8 0) 1 Try.underlying30 info31 rfl .i64 .i64 nn (by omega) (by omega)
  have hst : L3Rel nn m L Z w3 w4.heap.size sb dn dn (.int .i64 0) (w4.alloc (.cells (madeCells #[.int .i8 0] nn) 31)) :=
    ⟨0, St.init Z m, T, by omega, rfl, rfl, hRep.alloc _, hb0, hw0, rfl, World.rowIs_made w4 (.int .i8 0) nn 31, hRep.tnew, hG.trans (Grew.alloc T w4 _)⟩
  have hmb : w3.heap.size ≤ w4.heap.size := hG.size
  generalize hmbe : w4.heap.size = mb at *
  have HS := hide hst
  have Hin := hide (And.intro hR3 hI4)
  clear hRep hG hb0 hw0 hst hR3 hI4 hin
  go_wp2_with fail
  clear hmk hmbe
  go_loopg [9] dn (fun g iv wr => L3Rel nn m L Z w3 mb sb dn g iv wr)
  case atStart => exact HS.out
  case round =>
    clear HS
    obtain ⟨i, σ, Tr, hi, hg, rfl, hRep, hb, hw, hq, hrow, hT0, hG⟩ := hrel
    have Hg := hide hg
    have Hq := hide hq
    clear hg hq
    by_cases hlt : i < dn
    · obtain ⟨b, o, rfl, hDb, hcd⟩ := Hin.out.2 i hlt
      have hcd' : wr.cell? ⟨b, o + i, none⟩ = some (.int .i32 (dz i)) := (World.cell?_of_block (w := w3) (hG.block b hDb rfl).1).trans hcd
      have hdr := Hdz.out i hlt
      clear hcd
      by_cases hv : σ.val (dz i) = 0
      · have hvb : (σ.val (dz i) != 0) = false := by simp [hv]
        obtain ⟨hbd, hwd⟩ := decide_ok hf hb hw hdr.1 hdr.2 hv
        have htl1 := hbd.trlen
        have htl2 := hbd.tllen
        have htr0 : σ.tr.length + 1 ≤ nn := by simpa [St.assign, St.level] using htl1
        have htl0 : σ.tl.length + 1 ≤ nn := by simpa [St.assign, St.level] using htl2
        clear hv htl1 htl2
        have hvd : vr (dz i) < nn := by unfold vr; omega
        have hi1 : (0 : Int) ≤ dz i / 2 := by omega
        have hi2 : dz i / 2 < (nn : Int) := by omega
        have cm : wr.cell? ⟨mb, (dz i / 2).toNat, none⟩ = some (.int .i8 (σ.av (vr (dz i)))) := hrow.cell hvd
        have zm := hrow.frozen (dz i / 2).toNat
        have hrow1 : ∀ q, ((wr.drewN q).setCell ⟨mb, (dz i / 2).toNat, none⟩ (.int .i8 (tval (dz i)))).rowIs mb 31 nn (fun v => .int .i8 ((σ.level.assign (dz i) (-1)).av v)) := fun q =>
          (World.rowIs.set (w := wr.drewN q) hrow _ _).congr (fun j _ => by by_cases e : j = (dz i / 2).toNat <;> simp [up, vr, e, St.assign, St.level, tval])
        have hsb1 : ∀ q, SameBut mb wr ((wr.drewN q).setCell ⟨mb, (dz i / 2).toNat, none⟩ (.int .i8 (tval (dz i)))) := fun q => (SameBut.set (w := wr) (w' := wr.drewN q) ⟨rfl, rfl, rfl, rfl, fun _ _ => rfl⟩ _ _)
        have H1 := hide (And.intro hrow1 hsb1)
        clear hrow1 hsb1
        go_upto_region 21 with (first | (go_at_call 15; refine (zzLit hRep (dz i) hdr.1 hdr.2 hnn2 hb.av).mono ?_; rintro e w' ⟨rfl, q, rfl⟩) | (go_at_call 16; refine (trueValue_any (dz i) hdr.1 (by omega) _).mono ?_; rintro e w' ⟨rfl, hw9⟩; have hw8 := hw9.symm; clear hw9; subst hw8))
        have hrow1 := H1.out.1 q
        have hsb1 := H1.out.2 q
        clear cm zm H1
        generalize (wr.drewN q).setCell ⟨mb, (dz i / 2).toNat, none⟩ (.int .i8 (tval (dz i))) = w5 at *
        have hRep1 := hRep.same hsb1 hT0
        have hG1 := hG.same hsb1 hmb
        have hRc : SlR (fun b => b < w3.heap.size) w5 ca' m A' L C' Z := Hin.out.1.frame (fun b hb => (hG1.block b hb rfl).1)
        have hvals := hbd.av
        clear hRep hG hrow hsb1 hcd'
        go_wp2_with fail
        refine (naiveClose_any (fun b => b < w3.heap.size) nn m mb ca' cc' A' L C' Z _ w5 hRc (fun b hb => by omega) hf hvals hrow1).mono ?_
        rintro e w6 ⟨r, A9, rfl, hnc, hrow6, hsb6, hrt, hrf⟩
        have hRep6 := hRep1.same hsb6 hT0
        have hG6 := hG1.same hsb6 hmb
        have hB6 := hG6.size
        have Hrt := hide hrt
        have Hrf := hide hrf
        clear hRep1 hG1 hrow1 hsb6 hRc hrt hrf
        go_wp2_with fail
        refine (zzLevel hRep6 (by omega) (by omega) hB6).mono ?_
        rintro e w7 ⟨rfl, T7, hRep7, hGs7⟩
        obtain ⟨hrow7, hT7⟩ := hGs7.row hrow6 hT0
        have hG7 := hG6.trans hGs7
        have hB7 := hG7.size
        clear hRep6 hG6 hGs7 hrow6
        go_wp2_with fail
        refine (zzAssign hRep7 (dz i) (-1) hdr.1 hdr.2 hnn2 (by show σ.tr.length ≤ 4096; omega) (by show (σ.tl ++ [_]).length ≤ 4096; simp; omega) hB7).mono ?_
        rintro e w8 ⟨rfl, T8, hRep8, hGs8⟩
        obtain ⟨hrow8, hT8⟩ := hGs8.row hrow7 hT7
        have hG8 := hG7.trans hGs8
        have hB8 := hG8.size
        clear hRep7 hG7 hGs8 hrow7
        go_wp2_with fail
        refine (zzProp hf hRep8 hbd hwd hB8).mono ?_
        rintro e w9 ⟨c, σ2, T9, rfl, hRep9, hGs9, hb9, hx9, hres⟩
        obtain ⟨hrow9, hT9⟩ := hGs9.row hrow8 hT8
        have hG9 := hG8.trans hGs9
        clear hRep8 hG8 hGs9 hrow8
        rcases hres with ⟨rfl, hw9, hq9⟩ | ⟨hc0, hc1, hall⟩
        · obtain ⟨rfl, hAe⟩ := agree_ok hf hbd hb9 hx9 hw9 hq9 hnc Hrt.out Hrf.out
          rw [hAe] at hrow9
          have Hq9 := hide hq9
          clear hq9 hnc hAe Hrt Hrf
          go_wp2_with fail
          go_loopg [15] nn (fun g vv wr' => ∃ v : Nat, v ≤ nn ∧ g = nn - v ∧ vv = .int .i64 v ∧ Rep nn m L w3.heap.size none T9 wr' sb σ2 ∧ wr'.rowIs mb 31 nn (fun v => .int .i8 (σ2.av v)) ∧ Grew (fun _ => 0) T9 w3 wr')
          case atStart => exact ⟨0, by omega, rfl, rfl, hRep9, hrow9, hG9⟩
          case round =>
            clear hRep9 hrow9 hG9
            obtain ⟨v, hv, hgv, rfl, hRep9, hrow9, hG9⟩ := hrel
            have Hgv := hide hgv
            clear hgv
            by_cases hlv : v < nn
            · have cv : wr.cell? ⟨mb, v, none⟩ = some (.int .i8 (σ2.av v)) := hrow9.cell hlv
              have hve := val_even σ2 v
              have hwr : IntKind.i32.wrap (2 * (v : Int)) = 2 * (v : Int) := wraps_i32 _ (by omega) (by omega)
              have hw64 : IntKind.i64.wrap (2 * (v : Int)) = 2 * (v : Int) := by rw [IntKind.wrap_i64]; omega
              have hvi : (v : Int) < (nn : Int) := by omega
              have hcall : ∀ q3, Calls Try.prog 15 #[.pointer (some ⟨sb, 0, none⟩), .int .i32 (2 * (v : Int))] (wr.drewN q3) fun e w' => e = .returned (.int .i8 (σ2.av v)) ∧ ∃ n, w' = (wr.drewN q3).drewN n := fun q3 => by
                have := zzLit (hRep9.heap (w' := wr.drewN q3) rfl) (2 * (v : Int)) (by omega) (by omega) hnn2 hb9.av
                rw [hve] at this
                exact this
              have HC := hide hcall
              clear hcall hve
              go_wp2_with fail
              go_quiet ((go_at_call 15; exact Calls.quiet_of (HC.out _)))
              go_wp2
              go_roundg (nn - (v + 1))
              case measure => rw [Hgv.out]; omega
              case rel => exact ⟨v + 1, by omega, rfl, by go_num, hRep9.heap rfl, hrow9, hG9.trans (Grew.drewN T9 wr _)⟩
            · go_wp2
              go_roundg (dn - (i + 1))
              case measure => rw [Hg.out]; omega
              case rel => exact ⟨i + 1, σ2, T9, by omega, rfl, by go_num, hRep9, hb9, hw9, Hq9.out, hrow9, hT9, hG9⟩
        · have hrt := conflict_ok hf hbd hb9 hx9 (c := c.toNat) (by omega) hall hnc Hrf.out
          subst hrt
          have hlit := conflict_lits hb9 (c := c.toNat) (by omega) hall
          have Hlit := hide hlit
          have hRc : SlR (fun b => b < w3.heap.size) w9 ca' m A' L C' Z := Hin.out.1.frame (fun b hb => (hG9.block b hb rfl).1)
          obtain ⟨cN, rfl⟩ := Int.eq_ofNat_of_zero_le hc0
          simp only [Int.toNat_natCast] at Hlit
          obtain ⟨⟨b2, o2, rfl, _, hch⟩, hrw⟩ := hRc cN (by omega)
          have hl2 := hf.l2 cN (by omega)
          have hl3 := hf.l3 cN (by omega)
          obtain ⟨rb, ro, hra, _, _⟩ := hrw 0 (by omega)
          rw [hra] at hch
          have HC : Hid (∀ j, j < L cN → w9.cell? ⟨rb, ro + j, none⟩ = some (.int .i32 (Z cN j))) := fun j hj => by
            obtain ⟨rb', ro', hra', _, hcell⟩ := hrw j hj
            rw [hra] at hra'
            obtain ⟨rfl, rfl⟩ : rb = rb' ∧ ro = ro' := by simpa using hra'
            exact hcell
          clear hall hlit hnc Hrt Hrf hrw hra hRc
          have hge : decide ((0 : Int) ≤ (cN : Int)) = true := by simp
          have hlm : decide (m ≤ cN) = false := by simp; omega
          go_wp2_with fail
          go_loopg [14] (L cN) (fun g kv wr' => ∃ (k q : Nat), k ≤ L cN ∧ g = L cN - k ∧ kv = .int .i64 k ∧ wr' = w9.drewN q)
          case atStart => exact ⟨0, 0, by omega, rfl, rfl, rfl⟩
          case round =>
            obtain ⟨k, q2, hk, hgk, rfl, rfl⟩ := hrel
            have Hgk := hide hgk
            clear hgk
            by_cases hlk : k < L cN
            · have hck := HC.out k hlk
              have hz := hf.rng cN (by omega) k hlk
              have hvb : (σ2.val (Z cN k) != 2) = false := by rw [Hlit.out k hlk]; rfl
              have hR2 : Rep nn m L w3.heap.size none T9 (w9.drewN q2) sb σ2 := hRep9.heap rfl
              go_wp2_with (first | (go_at_call 15; refine (zzLit hR2 (Z cN k) hz.1 hz.2 hnn2 hb9.av).mono ?_; rintro e w' ⟨rfl, q3, rfl⟩))
              go_roundg (L cN - (k + 1))
              case measure => rw [Hgk.out]; omega
              case rel => exact ⟨k + 1, _, by omega, rfl, by go_num, rfl⟩
            · go_wp2
              go_ret
              exact ⟨rfl, hb03.trans (((hG9.trans (Grew.drewN T9 w9 q2)).below (Nat.le_refl _) (fun _ _ => rfl)).mono hb03.size)⟩
      · have hvb : (σ.val (dz i) != 0) = true := by simp [hv]
        clear hv
        go_wp2_with (first | (go_at_call 15; refine (zzLit hRep (dz i) hdr.1 hdr.2 hnn2 hb.av).mono ?_; rintro e w' ⟨rfl, q, rfl⟩))
        go_roundg (dn - (i + 1))
        case measure => rw [Hg.out]; omega
        case rel => exact ⟨i + 1, σ, Tr, by omega, rfl, by go_num, hRep.heap rfl, hb, hw, Hq.out, hrow, hT0, hG.trans (Grew.drewN Tr wr q)⟩
    · go_wp2
      go_ret
      exact ⟨rfl, hb03.trans ((hG.below (Nat.le_refl _) (fun _ _ => rfl)).mono hb03.size)⟩
end Go.Proofs.Qxb6600345a

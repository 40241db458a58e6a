import Derived.Test.Qxb6600345aV
namespace Go.Proofs.Qxb6600345a
open Go.RowKit
set_option linter.unusedVariables false
set_option linter.unusedSimpArgs false

def L4Rel (nn m : Nat) (L : Nat → Nat) (w3 : World) (mb sb : Nat) (σ : St) (T : Nat → Nat) (g : Nat) (dv iv : Value) (wr : World) : Prop :=
  ∃ (i : Nat) (f : Nat → Int), i ≤ σ.tr.length ∧ g = σ.tr.length - i ∧ dv = .int .i32 (decs σ.tr σ.rs i : Nat) ∧ iv = .int .i64 i ∧ Rep nn m L w3.heap.size none T wr sb σ ∧ PosOk σ.tr i f ∧ wr.rowIs mb 3 nn (fun v => .int .i64 (f v)) ∧ Grew (fun _ => 0) T w3 wr

/-- the inner loop's rounds: is t met among the first j of the clause? -/
def L4In (Z : Nat → Int) (L : Nat) (t : Int) (wo : World) (g : Nat) (bv jv : Value) (wr : World) : Prop :=
  ∃ (j q : Nat) (b : Bool), j ≤ L ∧ g = L - j ∧ bv = .bool b ∧ jv = .int .i64 j ∧ wr = wo.drewN q ∧ (b = true ↔ ∃ k, k < j ∧ Z k = t)

theorem L4In.hit {Z : Nat → Int} {t : Int} {j : Nat} {b : Bool} (h : b = true ↔ ∃ k, k < j ∧ Z k = t) (e : Z j = t) : (true = true ↔ ∃ k, k < j + 1 ∧ Z k = t) := ⟨fun _ => ⟨j, by omega, e⟩, fun _ => rfl⟩
theorem L4In.miss {Z : Nat → Int} {t : Int} {j : Nat} {b : Bool} (h : b = true ↔ ∃ k, k < j ∧ Z k = t) (e : Z j ≠ t) : (b = true ↔ ∃ k, k < j + 1 ∧ Z k = t) := by
  rw [h]
  constructor
  · rintro ⟨k, hk, ek⟩; exact ⟨k, by omega, ek⟩
  · rintro ⟨k, hk, ek⟩
    refine ⟨k, ?_, ek⟩
    by_cases e2 : k = j
    · subst e2; exact absurd ek e
    · omega


set_option maxRecDepth 100000 in
set_option maxHeartbeats 4000000 in
theorem law4 (n : Int) (ca da : Option Addr) (m cc dn dc : Nat) (A : Nat → Option Addr) (L C : Nat → Nat) (Z : Nat → Nat → Int) (dz : Nat → Int) (w : World) (hin : Ins w ca da m cc dn dc A L C Z dz) :
    Calls Try.prog 4 #[.int .i64 n, .slice ca m cc, .slice da dn dc] w fun e w' => LawPost w e w' := by
  go_enter Try.func4, Try.ntmps4
  go_wp2_with fail
  refine (bytes21 (fun b => b < w.heap.size) n ca da m cc dn dc A L C Z w hin.R hin.m1 hin.L1 hin.d1).mono ?_
  rintro e w' ⟨⟨r, rfl⟩, hw9⟩
  have hw8 := hw9.symm
  clear hw9
  subst hw8
  cases r
  · go_wp2
    go_ret
    exact ⟨rfl, Below.refl _ _⟩
  go_wp2_with fail
  refine (bytesWithin_any (fun b => b < w.heap.size) ca da m cc dn dc A L C Z w hin.R hin.m1 hin.L1 hin.d1).mono ?_
  rintro e w' ⟨⟨r, rfl, hbw⟩, hw9⟩
  have hw8 := hw9.symm
  clear hw9
  subst hw8
  cases r
  · go_wp2
    go_ret
    exact ⟨rfl, Below.refl _ _⟩
  have hLb := hbw rfl
  have hm1 := hin.m1
  have hd1 := hin.d1
  unfold maxLen at hm1 hd1
  have HLb := hide hLb
  clear hLb hbw
  by_cases hm2 : (65536 : Int) < (m : Int)
  · go_wp2
    go_ret
    exact ⟨rfl, Below.refl _ _⟩
  by_cases hd2 : (262144 : Int) < (dn : Int)
  · go_wp2
    go_ret
    exact ⟨rfl, Below.refl _ _⟩
  by_cases hn1 : n < 1
  · go_wp2
    go_ret
    exact ⟨rfl, Below.refl _ _⟩
  by_cases hn2 : 4096 < n
  · go_wp2
    go_ret
    exact ⟨rfl, Below.refl _ _⟩
  go_wp2_with fail
  refine (wellFormed_any (fun b => b < w.heap.size) n ca da m cc dn dc A L C Z dz w hin.R hin.I (fun b hb => hb) (by omega) hin.L1 (by omega) hin.zb hin.db).mono ?_
  rintro e w1 ⟨⟨r, rfl, hwf⟩, hb1⟩
  cases r
  · go_wp2
    go_ret
    exact ⟨rfl, hb1⟩
  obtain ⟨nn, rfl, hnn1, hnn2, hcl, hdz⟩ := hwf rfl
  clear hwf
  have hf : Form nn m L Z := ⟨hnn2, by omega, fun i hi => (hcl i hi).1, fun i hi => HLb.out i hi, fun i hi k hk => (hcl i hi).2.1 k hk, fun i hi => (hcl i hi).2.2⟩
  have Hdz := hide hdz
  clear hcl hdz
  go_wp2_with fail
  refine (cloneClauses_any (fun b => b < w.heap.size) ca m cc A L C Z w1 (hin.R.frame (fun b hb => hb1.block b hb)) (fun b hb => Nat.lt_of_lt_of_le hb hb1.size) hin.cn hin.an (by omega) (fun i hi => HLb.out i hi)).mono ?_
  rintro e w2 ⟨⟨ca', cc', A', C', rfl, _, hR2⟩, hb2⟩
  go_wp2_with fail
  refine (cloneInt_any (fun b => b < w.heap.size) da dn dc dz w2 (hin.I.frame (fun b hb => ((hb1.trans (hb2.mono hb1.size)).block b hb))) (fun b hb => Nat.lt_of_lt_of_le hb (Nat.le_trans hb1.size hb2.size)) hin.dnil (by omega)).mono ?_
  rintro e w3 ⟨⟨da', dc', rfl, _, hI3⟩, hb3⟩
  have hR3 : SlR (fun b => b < w3.heap.size) w3 ca' m A' L C' Z := fun i hi => by
    have hs := hb3.size
    obtain ⟨⟨b, o, h1, h2, h3⟩, h4⟩ := (hR2.frame (w' := w3) (fun b hb => hb3.block b hb.2)) i hi
    exact ⟨⟨b, o, h1, Nat.lt_of_lt_of_le h2.2 hs, h3⟩, h4.weaken (fun b hb => Nat.lt_of_lt_of_le hb.2 hs)⟩
  have hI4 : SlI (fun b => b < w3.heap.size) w3 da' dn dz := hI3.weaken (fun b hb => hb.2)
  have hb03 : Below w.heap.size w w3 := (hb1.trans (hb2.mono hb1.size)).trans (hb3.mono (Nat.le_trans hb1.size hb2.size))
  clear hR2 hI3 hb1 hb2 hb3 HLb
  go_wp2_with fail
  refine (build_any (fun b => b < w3.heap.size) nn m ca' cc' A' L C' Z w3 hR3 (fun b hb => hb) hf).mono ?_
  rintro e w4 ⟨sb, T, rfl, hRep, hG⟩
  obtain ⟨hb0, hw0⟩ := init_ok hf
  have hmb4 := hG.size
  go_wp2_with fail
  refine (run_any (fun b => b < w3.heap.size) da' dn dc' dz hf hRep hb0 hw0 rfl hmb4 (hI4.frame (fun b hb => (hG.block b hb rfl).1)) (fun b hb => ⟨by omega, (hG.block b hb rfl).2⟩) Hdz.out (by omega)).mono ?_
  rintro e w5 ⟨r, σ, T5, rfl, hRep5, hGs5, hb5, _⟩
  have hG5 := hG.trans hGs5
  have htl := hb5.trlen
  have hvl : decide (nn < σ.tr.length) = false := by simp; omega
  have hmb : w3.heap.size ≤ w5.heap.size := hG5.size
  have Hin := hide hR3
  clear hRep hG hGs5 hb0 hw0 hR3 hI4 hin hmb4 Hdz
  go_wp2_with fail
  refine (zzTrailLen hRep5).mono ?_
  rintro e w' ⟨rfl, hw9⟩
  have hw8 := hw9.symm
  clear hw9
  subst hw8
  have hmk := run_make_row' (P := Try.prog) 42 3 (.int .i64 0) 8 Try.underlying42 info3 rfl .i64 .i64 nn (by omega) (by omega)
  have hrow0 := World.rowIs_made w5 (.int .i64 0) nn 3
  have hT0 : T5 w5.heap.size = 0 := hRep5.tnew
  have hRep6 := hRep5.alloc (.cells (madeCells #[.int .i64 0] nn) 3)
  have hG6 := hG5.trans (Grew.alloc T5 w5 (.cells (madeCells #[.int .i64 0] nn) 3))
  generalize hw6 : w5.alloc (.cells (madeCells #[.int .i64 0] nn) 3) = w6 at *
  generalize hmbe : w5.heap.size = mb at *
  clear hRep5 hG5
  go_wp2_with fail
  clear hmk
  go_loopg [10] nn (fun g iv wr => ∃ v : Nat, v ≤ nn ∧ g = nn - v ∧ iv = .int .i64 v ∧ wr.rowIs mb 3 nn (fun j => .int .i64 (if j < v then -1 else 0)) ∧ SameBut mb w6 wr)
  case atStart => exact ⟨0, by omega, rfl, rfl, hrow0.congr (fun j _ => by simp), SameBut.refl _ _⟩
  case round =>
    obtain ⟨v, hv, hg, rfl, hrow, hsb⟩ := hrel
    have Hg := hide hg
    clear hg
    by_cases hlt : v < nn
    · have hvi : (v : Int) < (nn : Int) := by omega
      have cv := hrow.cell hlt
      have zv := hrow.frozen v
      have H1 : Hid ((wr.setCell ⟨mb, v, none⟩ (.int .i64 (-1))).rowIs mb 3 nn (fun j => .int .i64 (if j < v + 1 then -1 else 0))) :=
        (World.rowIs.set (w := wr) hrow _ _).congr (fun j _ => by by_cases e : j = v <;> simp [up, e] <;> (try (have : (j < v + 1) ↔ j < v := by omega); simp [this]))
      clear hrow0
      go_wp2
      go_roundg (nn - (v + 1))
      case measure => rw [Hg.out]; omega
      case rel => exact ⟨v + 1, by omega, rfl, by go_num, H1.out, hsb.set _ _⟩
    · have hvn : v = nn := by omega
      subst hvn
      have hRep7 := hRep6.same hsb hT0
      have hG7 := hG6.same hsb hmb
      have hrow7 : wr.rowIs mb 3 v (fun _ => .int .i64 (-1)) := hrow.congr (fun j hj => by simp [hj])
      clear hrow hsb hrow0 hRep6 hG6 hw6
      obtain ⟨w7, hw7⟩ : ∃ w7 : World, w7 = wr := ⟨_, rfl⟩
      subst hw7
      go_wp2_with fail
      go_loopg [11, 12] σ.tr.length (fun g dv iv wr => L4Rel v m L w3 mb sb σ T5 g dv iv wr)
      case atStart => exact ⟨0, fun _ => -1, by omega, rfl, rfl, rfl, hRep7, PosOk.zero _, hrow7, hG7⟩
      case round =>
        clear hRep7 hG7 hrow7
        obtain ⟨i, f, hi, hgi, rfl, rfl, hRep, hpos, hrow, hG⟩ := hrel
        have Hgi := hide hgi
        clear hgi
        by_cases hli : i < σ.tr.length
        · obtain ⟨t, ht⟩ : ∃ t, σ.tr[i]? = some t := ⟨_, List.getElem?_eq_getElem hli⟩
          have htm := List.mem_of_getElem? ht
          have htr := hb5.trng t htm
          have hvt : vr t < v := by unfold vr; omega
          have hfr : f (vr t) < 0 := Int.not_le.1 fun hle => hb5.fresh ht ((hpos (vr t)).1 hle)
          have hpos1 := hpos.step ht
          have cv : wr.cell? ⟨mb, (t / 2).toNat, none⟩ = some (.int .i64 (f (vr t))) := hrow.cell hvt
          have zv := hrow.frozen (t / 2).toNat
          have hi1 : (0 : Int) ≤ t / 2 := by omega
          have hi2 : t / 2 < (v : Int) := by omega
          have hw64 : IntKind.i64.wrap (2 * (v : Int)) = 2 * (v : Int) := by rw [IntKind.wrap_i64]; omega
          have hrow1 : (wr.setCell ⟨mb, (t / 2).toNat, none⟩ (.int .i64 i)).rowIs mb 3 v (fun j => .int .i64 (up f (vr t) (i : Int) j)) :=
            (World.rowIs.set (w := wr) hrow _ _).congr (fun j _ => by by_cases e : j = (t / 2).toNat <;> simp [up, vr, e])
          have hsb1 : SameBut mb wr (wr.setCell ⟨mb, (t / 2).toNat, none⟩ (.int .i64 i)) := (SameBut.refl mb wr).set _ _
          have hRep1 := hRep.same hsb1 hT0
          have hG1 := hG.same hsb1 hmb
          have H1 := hide (And.intro hrow1 (And.intro hRep1 hG1))
          have Hpos := hide hpos1
          have hcall : Calls Try.prog 24 #[.pointer (some ⟨sb, 0, none⟩), .int .i64 (i : Int)] wr fun e w' => e = .returned (.int .i32 t) ∧ w' = wr := zzTrailAt hRep i t ht (by omega)
          have HC := hide hcall
          have Ht := hide ht
          clear hrow1 hsb1 hRep1 hG1 hpos hpos1 hrow hRep hG hcall ht
          go_upto_region 33 with (first | (go_at_call 24; refine HC.out.mono ?_; rintro e w' ⟨rfl, hw9⟩; have hw8 := hw9.symm; clear hw9; subst hw8) | (go_at_call 25; refine (var_any t _).mono ?_; rintro e w' ⟨rfl, hw9⟩; have hw8 := hw9.symm; clear hw9; subst hw8))
          go_upto_region 34 with fail
          have hrow1 := H1.out.1
          have hRep1 := H1.out.2.1
          have hG1 := H1.out.2.2
          clear cv zv H1 HC
          generalize wr.setCell ⟨mb, (t / 2).toNat, none⟩ (.int .i64 i) = w8 at *
          have hvb : (σ.val t != 1) = false := by rw [hb5.ttrue t htm]; rfl
          have hd1 := decs_pos hf hb5 i hli
          have hds := decs_step (rs := σ.rs) Ht.out
          have hlv := hb5.lvl i t Ht.out
          have hdk := decs_le_k σ.tr σ.rs i
          have hrr := hb5.rsr Ht.out
          have hC1 : ∀ q, Calls Try.prog 26 #[.pointer (some ⟨sb, 0, none⟩), .int .i32 (t / 2)] (w8.drewN q) fun e w' => e = .returned (.int .i32 (σ.rs (vr t))) ∧ w' = w8.drewN q := fun q => zzReason (hRep1.heap (w' := w8.drewN q) rfl) (t / 2) hi1 hi2
          have hC2 : ∀ q, Calls Try.prog 27 #[.pointer (some ⟨sb, 0, none⟩), .int .i32 (t / 2)] (w8.drewN q) fun e w' => e = .returned (.int .i32 (σ.lv (vr t))) ∧ w' = w8.drewN q := fun q => zzLevelOf (hRep1.heap (w' := w8.drewN q) rfl) (t / 2) hi1 hi2
          rw [hlv] at hC2
          clear hlv
          rcases hrr with hr1 | ⟨hr1, hr2⟩
          · rw [if_pos hr1] at hds
            rw [hr1] at hC1
            rw [hds] at hC2
            have hne : ((decs σ.tr σ.rs i : Int) + 1 == 0) = false := by simp; omega
            have hwd : IntKind.i32.wrap ((decs σ.tr σ.rs i : Int) + 1) = (decs σ.tr σ.rs i : Int) + 1 := wraps_i32 _ (by omega) (by omega)
            have hC3 := hide hC1
            have hC4 := hide hC2
            simp only [Int.natCast_add, Int.natCast_one] at hC4
            clear hC1 hC2
            go_wp2_with (first | (go_at_call 15; refine (zzLit hRep1 t htr.1 htr.2 hnn2 hb5.av).mono ?_; rintro e w' ⟨rfl, q, rfl⟩) | (go_at_call 26; refine (hC3.out _).mono ?_; rintro e w' ⟨rfl, rfl⟩) | (go_at_call 27; refine (hC4.out _).mono ?_; rintro e w' ⟨rfl, rfl⟩))
            go_roundg (σ.tr.length - (i + 1))
            case measure => rw [Hgi.out]; omega
            case rel => exact ⟨i + 1, _, by omega, rfl, by rw [hds]; go_num, by go_num, hRep1.heap rfl, Hpos.out, hrow1, hG1.trans (Grew.drewN T5 w8 _)⟩
          · have hr3 : σ.rs (vr t) ≠ -1 := by omega
            rw [if_neg hr3, Nat.add_zero] at hds
            rw [hds] at hC2
            obtain ⟨r9, hr9⟩ := Int.eq_ofNat_of_zero_le hr1
            rw [hr9] at hC1
            have hrm : r9 < m := by omega
            obtain ⟨hhas, hoth⟩ := hb5.given hf Ht.out hr9
            have Hoth := hide hoth
            have Hhas := hide hhas
            clear hr1 hr2 hr3 hr9 hoth hhas
            have hne : ((decs σ.tr σ.rs i : Int) == 0) = false := by simp; omega
            have hC3 := hide hC1
            have hC4 := hide hC2
            clear hC1 hC2
            obtain ⟨⟨b2, o2, rfl, hb2, hch0⟩, hrw⟩ := Hin.out r9 hrm
            have hch : w8.cell? ⟨b2, o2 + r9, none⟩ = some (.slice (A' r9) (L r9) (C' r9)) := (World.cell?_of_block (w := w3) (hG1.block b2 hb2 rfl).1).trans hch0
            have hl2 := hf.l2 r9 hrm
            have hl3 := hf.l3 r9 hrm
            obtain ⟨rb, ro, hra, _, _⟩ := hrw 0 (by omega)
            rw [hra] at hch
            have HC : Hid (∀ j, j < L r9 → w8.cell? ⟨rb, ro + j, none⟩ = some (.int .i32 (Z r9 j))) := fun j hj => by
              obtain ⟨rb', ro', hra', hb9, hcell⟩ := hrw j hj
              rw [hra] at hra'
              obtain ⟨rfl, rfl⟩ : rb = rb' ∧ ro = ro' := by simpa using hra'
              exact (World.cell?_of_block (w := w3) (hG1.block rb hb9 rfl).1).trans hcell
            clear hrw hra hch0
            have hge : decide ((0 : Int) ≤ (r9 : Int)) = true := by simp
            have hlm : decide (m ≤ r9) = false := by simp; omega
            have hlm2 : decide ((m : Int) ≤ (r9 : Int)) = false := by simp; omega
            have hlt0 : decide ((r9 : Int) < 0) = false := by simp
            go_wp2_with (first | (go_at_call 15; refine (zzLit hRep1 t htr.1 htr.2 hnn2 hb5.av).mono ?_; rintro e w' ⟨rfl, q, rfl⟩) | (go_at_call 26; refine (hC3.out _).mono ?_; rintro e w' ⟨rfl, rfl⟩) | (go_at_call 27; refine (hC4.out _).mono ?_; rintro e w' ⟨rfl, rfl⟩))
            go_loopg [17, 18] (L r9) (fun g bv jv wr => L4In (Z r9) (L r9) t w8 g bv jv wr)
            case atStart => exact ⟨0, q, false, by omega, rfl, rfl, rfl, rfl, by simp⟩
            case round =>
              obtain ⟨j, q2, b, hj, hgj, rfl, rfl, rfl, hbt⟩ := hrel
              have Hgj := hide hgj
              have Hbt := hide hbt
              clear hgj hbt
              by_cases hlj : j < L r9
              · have hck := HC.out j hlj
                have hz := hf.rng r9 hrm j hlj
                by_cases hqt : Z r9 j = t
                · have hqb : (Z r9 j == t) = true := by simp [hqt]
                  go_wp2_with fail
                  go_roundg (L r9 - (j + 1))
                  case measure => rw [Hgj.out]; omega
                  case rel => exact ⟨j + 1, q2, true, by omega, rfl, rfl, by go_num, rfl, L4In.hit Hbt.out hqt⟩
                · have hqb : (Z r9 j == t) = false := by simp [hqt]
                  obtain ⟨hbef, hv2⟩ := Hoth.out j hlj hqt
                  have hvb2 : (σ.val (Z r9 j) != 2) = false := by rw [hv2]; rfl
                  have hvz : vr (Z r9 j) < v := by unfold vr; omega
                  have hfz : ¬ up f (vr t) (i : Int) (vr (Z r9 j)) < 0 := Int.not_lt.2 ((Hpos.out _).2 (by
                    obtain ⟨y, hy, ey⟩ := hbef
                    exact ⟨y, by rw [List.take_add_one]; exact List.mem_append.2 (.inl hy), ey⟩))
                  have cz : w8.cell? ⟨mb, (Z r9 j / 2).toNat, none⟩ = some (.int .i64 (up f (vr t) (i : Int) (vr (Z r9 j)))) := hrow1.cell hvz
                  generalize up f (vr t) (i : Int) (vr (Z r9 j)) = fz at hfz cz
                  have hz1 : (0 : Int) ≤ Z r9 j / 2 := by omega
                  have hz2 : Z r9 j / 2 < (v : Int) := by omega
                  have hR2 : Rep v m L w3.heap.size none T5 (w8.drewN q2) sb σ := hRep1.heap rfl
                  clear hv2 hbef
                  go_wp2_with (first | (go_at_call 15; refine (zzLit hR2 (Z r9 j) hz.1 hz.2 hnn2 hb5.av).mono ?_; rintro e w' ⟨rfl, q3, rfl⟩))
                  go_roundg (L r9 - (j + 1))
                  case measure => rw [Hgj.out]; omega
                  case rel => exact ⟨j + 1, _, b, by omega, rfl, rfl, by go_num, rfl, L4In.miss Hbt.out hqt⟩
              · have hbt : b = true := by
                  obtain ⟨k, hk, ek⟩ := Hhas.out
                  exact Hbt.out.2 ⟨k, by omega, ek⟩
                subst hbt
                go_wp2_with fail
                go_roundg (σ.tr.length - (i + 1))
                case measure => rw [Hgi.out]; omega
                case rel => exact ⟨i + 1, _, by omega, rfl, by rw [hds, Nat.add_zero], by go_num, hRep1.heap rfl, Hpos.out, hrow1, hG1.trans (Grew.drewN T5 w8 _)⟩
        · have hin2 : i = σ.tr.length := by omega
          subst hin2
          have htll := hb5.tll
          have hC1 : Calls Try.prog 28 #[.pointer (some ⟨sb, 0, none⟩)] wr fun e w' => e = .returned (.int .i64 (decs σ.tr σ.rs σ.tr.length : Nat)) ∧ w' = wr := by
            have := zzDl hRep
            rw [htll] at this
            exact this
          have HC := hide hC1
          have hdk := decs_le_k σ.tr σ.rs σ.tr.length
          have hdw : wrap64 (decs σ.tr σ.rs σ.tr.length : Int) = (decs σ.tr σ.rs σ.tr.length : Int) := by unfold wrap64; omega
          have hall := hpos.all hb5
          have Hall := hide hall
          clear hC1 hpos hall htll
          go_wp2_with (go_at_call 28; refine HC.out.mono ?_; rintro e w' ⟨rfl, hw9⟩; have hw8 := hw9.symm; clear hw9; subst hw8)
          obtain ⟨wo, hwo⟩ : ∃ wo : World, wo = wr := ⟨_, rfl⟩
          subst hwo
          go_loopg [20] v (fun g jv wr => ∃ j q : Nat, j ≤ v ∧ g = v - j ∧ jv = .int .i64 j ∧ wr = wo.drewN q)
          case atStart => exact ⟨0, 0, by omega, rfl, rfl, rfl⟩
          case round =>
            obtain ⟨j, q, hj, hgj, rfl, rfl⟩ := hrel
            have Hgj := hide hgj
            clear hgj
            by_cases hlj : j < v
            · have cj : (wo.drewN q).cell? ⟨mb, j, none⟩ = some (.int .i64 (f j)) := hrow.cell hlj
              have hve := val_even σ j
              have hwr : IntKind.i32.wrap (2 * (j : Int)) = 2 * (j : Int) := wraps_i32 _ (by omega) (by omega)
              have hw64 : IntKind.i64.wrap (2 * (j : Int)) = 2 * (j : Int) := by rw [IntKind.wrap_i64]; omega
              have hvi : (j : Int) < (v : Int) := by omega
              generalize hw9 : wo.drewN q = w9 at *
              have hR9 : Rep v m L w3.heap.size none T5 w9 sb σ := by rw [← hw9]; exact hRep.heap rfl
              have hcall : ∀ q3, Calls Try.prog 15 #[.pointer (some ⟨sb, 0, none⟩), .int .i32 (2 * (j : Int))] (w9.drewN q3) fun e w' => e = .returned (.int .i8 (σ.av j)) ∧ ∃ n, w' = (w9.drewN q3).drewN n := fun q3 => by
                have := zzLit (hR9.heap (w' := w9.drewN q3) rfl) (2 * (j : Int)) (by omega) (by omega) hnn2 hb5.av
                rw [hve] at this
                exact this
              have HC := hide hcall
              clear hcall hve
              have haj := Hall.out j
              by_cases hz : σ.av j = 0
              · have hzb : (σ.av j != 0) = false := by simp [hz]
                have hfb : decide (0 ≤ f j) = false := by simp [haj.1 hz]
                go_wp2_with fail
                go_quiet ((go_at_call 15; exact Calls.quiet_of (HC.out _)))
                go_wp2
                go_roundg (v - (j + 1))
                case measure => rw [Hgj.out]; omega
                case rel => exact ⟨j + 1, _, by omega, rfl, by go_num, by rw [← hw9, World.drewN_drewN]⟩
              · have hzb : (σ.av j != 0) = true := by simp [hz]
                have hfb : decide (0 ≤ f j) = true := by simp; omega
                go_wp2_with fail
                go_quiet ((go_at_call 15; exact Calls.quiet_of (HC.out _)))
                go_wp2
                go_roundg (v - (j + 1))
                case measure => rw [Hgj.out]; omega
                case rel => exact ⟨j + 1, _, by omega, rfl, by go_num, by rw [← hw9, World.drewN_drewN]⟩
            · go_wp2
              go_ret
              exact ⟨rfl, hb03.trans (((hG.trans (Grew.drewN T5 wo q)).below (Nat.le_refl _) (fun _ _ => rfl)).mono hb03.size)⟩
end Go.Proofs.Qxb6600345a

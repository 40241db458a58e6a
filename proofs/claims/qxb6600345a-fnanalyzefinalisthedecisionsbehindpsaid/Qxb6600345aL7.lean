import Derived.Test.Qxb6600345aA2
namespace Go.Proofs.Qxb6600345a
open Go.RowKit
set_option linter.unusedVariables false
set_option linter.unusedSimpArgs false

/-- the law's own list, in blocks from B0 on -/
def Want (B0 : Nat) (w : World) (v : Value) (xs : List Int) : Prop := w.ownsRow B0 21 1 v xs.length (xs.map (Value.int .i32))

theorem Want.gen {B0 : Nat} {w : World} {v : Value} {ys : List Int} (h : Want B0 w v ys) : ∃ xs, Hid (xs = ys) ∧ Want B0 w v xs := ⟨ys, hide rfl, h⟩

theorem Want.cells {B0 : Nat} {w : World} {v : Value} {xs : List Int} (h : Want B0 w v xs) (hx : 0 < xs.length) :
    ∃ g cap, v = .slice (some ⟨g, 0, none⟩) xs.length cap ∧ B0 ≤ g ∧ g < w.heap.size ∧ ∀ (j : Nat) (l : Int), xs[j]? = some l → w.cell? ⟨g, j, none⟩ = some (.int .i32 l) := by
  rcases h.2 with ⟨_, h0⟩ | ⟨g, cap, cur, hv, rest⟩
  · omega
  · have hlt := World.ownsRow.lt h g (by rw [hv]; rfl)
    refine ⟨g, cap, hv, hlt.1, hlt.2, fun j l hj => ?_⟩
    have := World.ownsRow.cells h (g := g) (by rw [hv]; rfl) j (.int .i32 l) (by rw [List.getElem?_map, hj]; rfl)
    rw [Addr.add_lit] at this
    simpa using this

def L7Rel (σ : St) (d : Nat → Bool) (p : Int) (w8 : World) (g : Nat) (sv iv : Value) (wr : World) : Prop :=
  ∃ i : Nat, i ≤ σ.tr.length ∧ g = i ∧ iv = .int .i64 ((i : Int) - 1) ∧ Want w8.heap.size wr sv (p :: coreOf σ d i) ∧ Below w8.heap.size w8 wr

def L7Cmp (n : Nat) (wf : World) (g : Nat) (jv : Value) (wr : World) : Prop := ∃ j q : Nat, j ≤ n ∧ g = n - j ∧ jv = .int .i64 j ∧ wr = wf.drewN q

theorem Below.grew {T : Nat → Nat} {w w' : World} (h : Below w.heap.size w w') : Grew T T w w' := ⟨h.os, h.tape, h.output, h.size, fun b hb h0 => ⟨h.block b hb, h0⟩⟩


set_option maxRecDepth 100000 in
set_option maxHeartbeats 4000000 in
theorem law7 (n p : Int) (ca da : Option Addr) (m cc dn dc : Nat) (A : Nat → Option Addr) (L C : Nat → Nat) (Z : Nat → Nat → Int) (dz : Nat → Int) (w : World) (hpr : -2147483648 ≤ p ∧ p ≤ 2147483647) (hin : Ins w ca da m cc dn dc A L C Z dz) :
    Calls Try.prog 7 #[.int .i64 n, .slice ca m cc, .slice da dn dc, .int .i32 p] w fun e w' => LawPost w e w' := by
  go_enter Try.func7, Try.ntmps7
  go_wp2_with fail
  refine (bytes38 (fun b => b < w.heap.size) n p ca da m cc dn dc A L C Z w hin.R hin.m1 hin.L1 hin.d1).mono ?_
  rintro e w' ⟨⟨r, rfl⟩, hw9⟩
  have hw8 := hw9.symm
  clear hw9
  subst hw8
  cases r
  · go_wp2
    go_ret
    exact ⟨rfl, Below.refl _ _⟩
  go_wp2_with fail
  refine (bytesWithin_any (fun b => b < w.heap.size) ca da m cc dn dc A L C Z w hin.R hin.m1 hin.L1 hin.d1).mono ?_
  rintro e w' ⟨⟨r, rfl, hbw⟩, hw9⟩
  have hw8 := hw9.symm
  clear hw9
  subst hw8
  cases r
  · go_wp2
    go_ret
    exact ⟨rfl, Below.refl _ _⟩
  have hLb := hbw rfl
  have hm1 := hin.m1
  have hd1 := hin.d1
  unfold maxLen at hm1 hd1
  have HLb := hide hLb
  clear hLb hbw
  by_cases hm2 : (65536 : Int) < (m : Int)
  · go_wp2
    go_ret
    exact ⟨rfl, Below.refl _ _⟩
  by_cases hd2 : (262144 : Int) < (dn : Int)
  · go_wp2
    go_ret
    exact ⟨rfl, Below.refl _ _⟩
  by_cases hn1 : n < 1
  · go_wp2
    go_ret
    exact ⟨rfl, Below.refl _ _⟩
  by_cases hn2 : 4096 < n
  · go_wp2
    go_ret
    exact ⟨rfl, Below.refl _ _⟩
  go_wp2_with fail
  refine (wellFormed_any (fun b => b < w.heap.size) n ca da m cc dn dc A L C Z dz w hin.R hin.I (fun b hb => hb) (by omega) hin.L1 (by omega) hin.zb hin.db).mono ?_
  rintro e w1 ⟨⟨r, rfl, hwf⟩, hb1⟩
  cases r
  · go_wp2
    go_ret
    exact ⟨rfl, hb1⟩
  obtain ⟨nn, rfl, hnn1, hnn2, hcl, hdz⟩ := hwf rfl
  clear hwf
  have hf : Form nn m L Z := ⟨hnn2, by omega, fun i hi => (hcl i hi).1, fun i hi => HLb.out i hi, fun i hi k hk => (hcl i hi).2.1 k hk, fun i hi => (hcl i hi).2.2⟩
  have Hdz := hide hdz
  clear hcl hdz
  have hwp : wrap64 p = p := by unfold wrap64; omega
  have hwp1 : IntKind.i64.wrap p = p := by rw [IntKind.wrap_i64]; omega
  have hwp2 : wrap64 (2 * (nn : Int)) = 2 * (nn : Int) := by unfold wrap64; omega
  have hwp3 : IntKind.i64.wrap (2 * (nn : Int)) = 2 * (nn : Int) := by rw [IntKind.wrap_i64]; omega
  by_cases hp1 : p < 0
  · go_wp2
    go_ret
    exact ⟨rfl, hb1⟩
  by_cases hp2 : 2 * (nn : Int) ≤ p
  · go_wp2
    go_ret
    exact ⟨rfl, hb1⟩
  go_wp2_with fail
  refine (cloneClauses_any (fun b => b < w.heap.size) ca m cc A L C Z w1 (hin.R.frame (fun b hb => hb1.block b hb)) (fun b hb => Nat.lt_of_lt_of_le hb hb1.size) hin.cn hin.an (by omega) (fun i hi => HLb.out i hi)).mono ?_
  rintro e w2 ⟨⟨ca', cc', A', C', rfl, _, hR2⟩, hb2⟩
  go_wp2_with fail
  refine (cloneInt_any (fun b => b < w.heap.size) da dn dc dz w2 (hin.I.frame (fun b hb => ((hb1.trans (hb2.mono hb1.size)).block b hb))) (fun b hb => Nat.lt_of_lt_of_le hb (Nat.le_trans hb1.size hb2.size)) hin.dnil (by omega)).mono ?_
  rintro e w3 ⟨⟨da', dc', rfl, _, hI3⟩, hb3⟩
  have hR3 : SlR (fun b => b < w3.heap.size) w3 ca' m A' L C' Z := fun i hi => by
    have hs := hb3.size
    obtain ⟨⟨b, o, h1, h2, h3⟩, h4⟩ := (hR2.frame (w' := w3) (fun b hb => hb3.block b hb.2)) i hi
    exact ⟨⟨b, o, h1, Nat.lt_of_lt_of_le h2.2 hs, h3⟩, h4.weaken (fun b hb => Nat.lt_of_lt_of_le hb.2 hs)⟩
  have hI4 : SlI (fun b => b < w3.heap.size) w3 da' dn dz := hI3.weaken (fun b hb => hb.2)
  have hb03 : Below w.heap.size w w3 := (hb1.trans (hb2.mono hb1.size)).trans (hb3.mono (Nat.le_trans hb1.size hb2.size))
  clear hR2 hI3 hb1 hb2 hb3 HLb
  go_wp2_with fail
  refine (build_any (fun b => b < w3.heap.size) nn m ca' cc' A' L C' Z w3 hR3 (fun b hb => hb) hf).mono ?_
  rintro e w4 ⟨sb, T, rfl, hRep, hG⟩
  obtain ⟨hb0, hw0⟩ := init_ok hf
  have hmb4 := hG.size
  go_wp2_with fail
  refine (run_any (fun b => b < w3.heap.size) da' dn dc' dz hf hRep hb0 hw0 rfl hmb4 (hI4.frame (fun b hb => (hG.block b hb rfl).1)) (fun b hb => ⟨by omega, (hG.block b hb rfl).2⟩) Hdz.out (by omega)).mono ?_
  rintro e w5 ⟨r, σ, T5, rfl, hRep5, hGs5, hb5, hres⟩
  have hG5 := hG.trans hGs5
  have Hin := hide hR3
  clear hRep hG hGs5 hb0 hw0 hR3 hI4 hin hmb4 Hdz hm1 hd1
  rcases hres with ⟨rfl, hw5, hq5⟩ | ⟨hr0, hr1⟩
  · have hp0 : 0 ≤ p := by omega
    have hp3 : p < 2 * (nn : Int) := by omega
    by_cases hpv : σ.val p = 0
    · have hpb : (σ.val p == 0) = true := by simp [hpv]
      clear hpv
      go_wp2_with (first | (go_at_call 15; refine (zzLit hRep5 p hp0 hp3 hnn2 hb5.av).mono ?_; rintro e w' ⟨rfl, q, rfl⟩))
      go_ret
      exact ⟨rfl, hb03.trans (((hG5.trans (Grew.drewN T5 w5 q)).below (Nat.le_refl _) (fun _ _ => rfl)).mono hb03.size)⟩
    · have hpb : (σ.val p == 0) = false := by simp [hpv]
      have hpa : σ.av (vr p) ≠ 0 := fun e => hpv ((lval_zero hb5.av).2 e)
      have Hq5 := hide hq5
      clear hpv hq5
      go_wp2_with (first | (go_at_call 15; refine (zzLit hRep5 p hp0 hp3 hnn2 hb5.av).mono ?_; rintro e w' ⟨rfl, q, rfl⟩))
      have hRep6 := hRep5.heap (w' := w5.drewN q) rfl
      have hG6 := hG5.trans (Grew.drewN T5 w5 q)
      clear hRep5 hG5
      generalize w5.drewN q = w6 at *
      refine (readState_any hf hRep6 hb5).mono ?_
      rintro e w7 ⟨b1, b2, b3, b4, f1, f2, f3, f4, rfl, hRS, hf1, hf3, hf4, hb1, hbel7⟩
      have hRep7 := hRep6.below hbel7
      have hG7 := hG6.trans (Below.grew (T := T5) hbel7)
      clear hRep6 hG6 hbel7
      go_upto_region 23 with fail
      have hvp : vr p < nn := by unfold vr; omega
      have hpd : p / 2 = (vr p : Int) := by unfold vr; omega
      have hrsr : ∀ v, v < nn → -1 ≤ f4 v ∧ f4 v < (m : Int) := fun v _ => by
        by_cases hon : ∃ y ∈ σ.tr.take σ.tr.length, vr y = v
        · rw [(hf4 v).1 hon]
          obtain ⟨y, hy, rfl⟩ := hon
          rw [List.take_length] at hy
          obtain ⟨k, hk⟩ := List.mem_iff_getElem?.1 hy
          have := hb5.rsr hk
          omega
        · rw [(hf4 v).2 hon]
          omega
      have hRc : SlR (fun b => b < (w7.alloc (.cells #[.int .i64 (vr p : Int)] 3)).heap.size) (w7.alloc (.cells #[.int .i64 (vr p : Int)] 3)) ca' m A' L C' Z := fun i hi => by
        have hs := hG7.size
        have hs2 : w7.heap.size ≤ (w7.alloc (.cells #[.int .i64 (vr p : Int)] 3)).heap.size := by simp
        obtain ⟨⟨b, o, h1, h2, h3⟩, h4⟩ := (Hin.out.frame (w' := w7.alloc (.cells #[.int .i64 (vr p : Int)] 3)) (fun b hb => (Below.heap_alloc w7 _ b (by omega)).trans (hG7.block b hb rfl).1)) i hi
        exact ⟨⟨b, o, h1, by omega, h3⟩, h4.weaken (fun b hb => by omega)⟩
      have hcs : (w7.alloc (.cells #[.int .i64 (vr p : Int)] 3)).cell? ⟨w7.heap.size, 0, none⟩ = some (.int .i64 (vr p : Int)) := by
        simp [Addr.add_lit]
      have HC := hide (reachFrom_any (w := w7.alloc (.cells #[.int .i64 (vr p : Int)] 3)) (cc := cc') hf hRc hcs (by simp) hvp (hRS.r3.alloc _) (hRS.r4.alloc _) hrsr)
      have hal : Below w7.heap.size w7 (w7.alloc (.cells #[.int .i64 (vr p : Int)] 3)) := (Below.refl _ _).alloc (Nat.le_refl _) _
      clear hRc hcs hrsr
      have htl := hb5.trlen
      have htl10 : σ.tr.length ≤ 10000 := by omega
      have hwx : IntKind.i64.wrap ((σ.tr.length : Int) - 1) = (σ.tr.length : Int) - 1 := sub1_i64 htl10
      have hwx2 : wrap64 ((σ.tr.length : Int) - 1) = (σ.tr.length : Int) - 1 := sub1_w htl10
      go_wp2_with (first | (go_at_call 32; refine HC.out.mono ?_; rintro e w8 ⟨vb, vis, rfl, hvis, hrch, hvb, hbel8⟩))
      have hrr1 : w8.rowIs b1 21 σ.tr.length (fun j => .int .i32 (f1 j)) := (hRS.r1.alloc _).of_block (hbel8.block b1 (hRS.r1.alloc _).lt)
      have hrr4 : w8.rowIs b4 21 nn (fun j => .int .i32 (f4 j)) := (hRS.r4.alloc _).of_block (hbel8.block b4 (hRS.r4.alloc _).lt)
      have hRep8 := (hRep7.below hal).below hbel8
      have hG8 := (hG7.trans (Below.grew (T := T5) hal)).trans (Below.grew (T := T5) hbel8)
      have hreach : ∀ k t, σ.tr[k]? = some t → (vis (vr t) = true ↔ Reach σ L p (vr t)) := fun k t ht => by
        rw [hrch, rch_reach hf hb5 hf3 hf4 hpa]
        exact ⟨fun h => h.1, fun h => ⟨h, t, List.mem_of_getElem? ht, rfl⟩⟩
      have hf4' : ∀ k t, σ.tr[k]? = some t → f4 (vr t) = σ.rs (vr t) := fun k t ht => (hf4 _).1 ⟨t, by rw [List.take_length]; exact List.mem_of_getElem? ht, rfl⟩
      obtain ⟨d, hdt⟩ := tells σ L p
      have Hd := hide hdt
      clear hdt
      have hW0 : Want w8.heap.size (w8.alloc (.cells #[.int .i32 p] 21)) (.slice (some ⟨w8.heap.size, 0, none⟩) 1 1) [p] := by
        refine own_of_rowIs (f := fun _ => .int .i32 p) ⟨#[.int .i32 p], heap_alloc_new w8 _, rfl, fun i hi => ?_⟩ rfl (by omega) (by unfold maxLen; omega) (Nat.le_refl _) (fun j hj => ?_)
        · obtain rfl : i = 0 := by omega
          rfl
        · obtain rfl : j = 0 := by omega
          rfl
      have hbel9 : Below w8.heap.size w8 (w8.alloc (.cells #[.int .i32 p] 21)) := (Below.refl _ _).alloc (Nat.le_refl _) _
      have HS : Hid (L7Rel σ d p w8 σ.tr.length (.slice (some ⟨w8.heap.size, 0, none⟩) 1 1) (.int .i64 ((σ.tr.length : Int) - 1)) (w8.alloc (.cells #[.int .i32 p] 21))) := ⟨σ.tr.length, Nat.le_refl _, rfl, rfl, by rw [coreOf_end]; exact hW0, hbel9⟩
      have Hf := hide (And.intro hreach (And.intro hf4' hf1))
      clear hW0 hbel9 hreach hf4' hf1 hf3 hf4 hrch hRS hRep7 hG7 hbel8 hal HC hpd hwx hwx2
      generalize w8.alloc (.cells #[.int .i32 p] 21) = w9 at *
      go_loopg [16, 17] σ.tr.length (fun g sv iv wr => L7Rel σ d p w8 g sv iv wr)
      case atStart => exact HS.out
      case round =>
        clear HS
        obtain ⟨i, hi, hgi, rfl, hWn, hbel⟩ := hrel
        have Hgi := hide hgi
        clear hgi
        obtain ⟨xs, Hxs, hW⟩ := hWn.gen
        clear hWn
        have hxl : 0 < xs.length := by rw [Hxs.out]; simp
        have hll : xs.length ≤ 4097 := by rw [Hxs.out]; have := coreOf_len σ d i; simp; omega
        obtain ⟨wg, wcap, rfl, hwg, hwg2, hcw⟩ := hW.cells hxl
        cases i with
        | zero =>
          have hRep10 := hRep8.below hbel
          have hG10 := hG8.trans (Below.grew (T := T5) hbel)
          have hge : decide ((0 : Int) ≤ ((0 : Nat) : Int) - 1) = false := by simp
          have hwt : T5 wg = 0 := by
            by_cases h0 : T5 wg = 0
            · exact h0
            · obtain ⟨LL, hLL⟩ := hRep8
              have := (hLL.tz wg h0).2
              omega
          go_wp2_with fail
          refine (zzFinal p Hd hf hRep10 hb5 hp0 hp3 hpa hG10.size).mono ?_
          rintro e wf ⟨cv, rfl, hC, hRepf, hGsf⟩
          obtain ⟨ys, Hys, hC7⟩ := hC.gen
          have hyx : ys = xs := Hys.out.trans Hxs.out.symm
          clear hC Hys Hxs
          subst hyx
          obtain ⟨cg, ccap, rfl, hcg, hcg2, hctag, hcc⟩ := hC7.cells hxl
          have Hcw : Hid (∀ (j : Nat) (l : Int), ys[j]? = some l → wf.cell? ⟨wg, j, none⟩ = some (.int .i32 l)) := fun j l hj => (World.cell?_of_block (w := wr) (hGsf.block wg hwg2 hwt).1).trans (hcw j l hj)
          have Hcc := hide hcc
          have hGf := hG10.trans hGsf
          clear hcw hcc hwt hctag hcg hcg2 hwg hwg2 hC7 hW hRepf hRep10 hG10 hGsf hrr1 hrr4 Hf hvis hbel hge hRep8 hG8 htl
          have hne : ((ys.length : Int) != (ys.length : Int)) = false := by simp
          go_wp2_with fail
          go_loopg [20] ys.length (fun g jv wr => L7Cmp ys.length wf g jv wr)
          case atStart => exact ⟨0, 0, by omega, rfl, rfl, rfl⟩
          case round =>
            obtain ⟨j, q, hj, hgj, rfl, rfl⟩ := hrel
            have Hgj := hide hgj
            clear hgj
            by_cases hlj : j < ys.length
            · obtain ⟨x, hx⟩ : ∃ x, ys[j]? = some x := ⟨_, List.getElem?_eq_getElem hlj⟩
              have c1 : (wf.drewN q).cell? ⟨wg, j, none⟩ = some (.int .i32 x) := Hcw.out j x hx
              have c2 : (wf.drewN q).cell? ⟨cg, j, none⟩ = some (.int .i32 x) := Hcc.out j x hx
              have hxx : (x != x) = false := by simp
              clear hx
              generalize hw9 : wf.drewN q = w9 at *
              have Hw9 := hide hw9
              clear hw9
              go_wp2_with fail
              go_quiet (fail)
              go_wp2_with fail
              go_roundg (ys.length - (j + 1))
              case measure => rw [Hgj.out]; omega
              case rel => exact ⟨j + 1, _, by omega, rfl, by go_num, by rw [← Hw9.out, World.drewN_drewN]⟩
            · go_wp2
              go_ret
              exact ⟨rfl, hb03.trans (((hGf.trans (Grew.drewN T5 wf q)).below (Nat.le_refl _) (fun _ _ => rfl)).mono hb03.size)⟩
        | succ k =>
          have e1 : ((k + 1 : Nat) : Int) - 1 = (k : Int) := by omega
          rw [e1]
          clear e1 hcw
          have hkl : k < σ.tr.length := by omega
          obtain ⟨t, ht⟩ : ∃ t, σ.tr[k]? = some t := ⟨_, List.getElem?_eq_getElem hkl⟩
          have htr := hb5.trng t (List.mem_of_getElem? ht)
          have hvt : vr t < nn := by unfold vr; omega
          have hzt : t / 2 = (vr t : Int) := by unfold vr; omega
          have hvti : (vr t : Int) < (nn : Int) := by omega
          have ct : wr.cell? ⟨b1, k, none⟩ = some (.int .i32 t) := by
            have h1 := hrr1.cell hkl
            rw [Hf.out.2.2 k t ht] at h1
            exact (World.cell?_of_block (w := w8) (hbel.block b1 hrr1.lt)).trans h1
          have cr : wr.cell? ⟨b4, vr t, none⟩ = some (.int .i32 (σ.rs (vr t))) := by
            have h1 := hrr4.cell hvt
            rw [Hf.out.2.1 k t ht] at h1
            exact (World.cell?_of_block (w := w8) (hbel.block b4 hrr4.lt)).trans h1
          have cvv : wr.cell? ⟨vb, vr t, none⟩ = some (.bool (vis (vr t))) := (World.cell?_of_block (w := w8) (hbel.block vb hvis.lt)).trans (hvis.cell hvt)
          have hre := Hf.out.1 k t ht
          have hcs := coreOf_step (len := L) (p := p) Hd.out ht
          have hrsr := hb5.rsr ht
          have hk10 : k ≤ 10000 := by omega
          have hkl2 : (k : Int) < (σ.tr.length : Int) := by omega
          have hge : decide ((0 : Int) ≤ (k : Int)) = true := decide_eq_true (by omega)
          have hwk : IntKind.i64.wrap ((k : Int) - 1) = (k : Int) - 1 := sub1_i64 hk10
          have hwk2 : wrap64 ((k : Int) - 1) = (k : Int) - 1 := sub1_w hk10
          clear ht
          generalize hrsv : σ.rs (vr t) = rsv at *
          generalize hvy : vr t = y at *
          by_cases hv : vis y = true
          · rw [hv] at cvv
            rcases hrsr with hr | ⟨hr0, hr1⟩
            · have hrb : decide (rsv < 0) = true := decide_eq_true (by omega)
              go_upto_region 30 with fail
              have hxs2 : p :: coreOf σ d k = xs ++ [t] := by rw [hcs.1 ⟨hre.1 hv, hr⟩, Hxs.out]; rfl
              have Hxs2 := hide hxs2
              obtain ⟨i0, hi0, hz0, hz1, hz2⟩ := info_parts info21
              have hws : w8.heap.size ≤ (wr.alloc (.cells #[.int .i32 t] 21)).heap.size := by have := hbel.size; simp; omega
              have hoW : (wr.alloc (.cells #[.int .i32 t] 21)).ownsRow w8.heap.size 21 1 (.slice (some ⟨wg, 0, none⟩) xs.length wcap) xs.length (xs.map (Value.int .i32)) := ownsRow_block hW fun k hk => Below.heap_alloc wr _ k (World.ownsRow.lt hW k hk).2
              have Hbel := hide hbel
              clear hxs2 hcs hre hbel cr cvv
              go_wp2_with (at_builtin; go_loud (refine wpList_append_lies _ rfl _ _ 23 rfl w8.heap.size 21 i0 (.int .i32 0) 1 4 Try.underlying23 hi0 hz0 hz1 hz2 rfl (by decide) (.slice (some ⟨wg, 0, none⟩) xs.length wcap) xs.length (xs.map (Value.int .i32)) rfl hoW ⟨wr.heap.size, 0, none⟩ 1 1 [.int .i32 t] rfl rfl (World.news_of_block (heap_alloc_new wr _)) (by simp [Value.oneCell']) (by decide) (by unfold maxLen; omega) (by omega) hws (wr.heap.size + 1) (by simp) ?_))
              intro g cap w10 hown hgrow hat hlt
              have hb10 : Below w8.heap.size w8 w10 := (Hbel.out.alloc Hbel.out.size _).grown hgrow hws (fun k hk => (World.ownsRow.lt hoW k hk).1)
              have hW10 : Want w8.heap.size w10 (.slice (some ⟨g, 0, none⟩) (xs.length + 1) cap) (p :: coreOf σ d k) := by
                rw [Hxs2.out]
                unfold Want
                simpa using hown
              clear hown hgrow hat hoW hW
              go_wp2_with fail
              go_roundg k
              case measure => rw [Hgi.out]; omega
              case rel => exact ⟨k, by omega, rfl, by go_num, hW10, hb10⟩
            · have hrb : decide (rsv < 0) = false := decide_eq_false (by omega)
              have hxs2 : xs = p :: coreOf σ d k := by rw [hcs.2 (fun hh => by omega)]; exact Hxs.out
              have Hxs2 := hide hxs2
              clear hxs2 hcs hre
              go_wp2_with fail
              go_roundg k
              case measure => rw [Hgi.out]; omega
              case rel => exact ⟨k, by omega, rfl, by go_num, Hxs2.out ▸ hW, hbel⟩
          · have hvf : vis y = false := by simpa using hv
            rw [hvf] at cvv
            have hxs2 : xs = p :: coreOf σ d k := by rw [hcs.2 (fun hh => hv (hre.2 hh.1))]; exact Hxs.out
            have Hxs2 := hide hxs2
            clear hxs2 hcs hre
            go_wp2_with fail
            go_roundg k
            case measure => rw [Hgi.out]; omega
            case rel => exact ⟨k, by omega, rfl, by go_num, Hxs2.out ▸ hW, hbel⟩
  · have hrb : decide (0 ≤ r) = true := by simp [hr0]
    go_wp2
    go_ret
    exact ⟨rfl, hb03.trans ((hG5.below (Nat.le_refl _) (fun _ _ => rfl)).mono hb03.size)⟩
end Go.Proofs.Qxb6600345a

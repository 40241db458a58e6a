import Derived.Test.Qxb6600345aW
namespace Go.Proofs.Qxb6600345a
open Go.RowKit
set_option linter.unusedVariables false
set_option linter.unusedSimpArgs false

def L8Rel (nn m : Nat) (L : Nat → Nat) (Z : Nat → Nat → Int) (w7 : World) (fb : Nat) (σ : St) (xs : List Int) (g : Nat) (iv : Value) (wr : World) : Prop :=
  ∃ (i : Nat) (σf : St) (Tr : Nat → Nat), i < xs.length ∧ g = i ∧ iv = .int .i64 i ∧ Rep nn m L w7.heap.size none Tr wr fb σf ∧ Base nn m L Z σf ∧ WInv nn m σf 0 [] ∧ σf.qh = σf.tr.length ∧ Below2 σf.av σ.av ∧ (∀ j l, i < j → xs[j]? = some l → σf.val l = 1) ∧ Grew (fun _ => 0) Tr w7 wr

theorem sub1_i64 {k : Nat} (h : k ≤ 10000) : IntKind.i64.wrap ((k : Int) - 1) = (k : Int) - 1 := by rw [IntKind.wrap_i64]; omega
theorem sub1_w {k : Nat} (h : k ≤ 10000) : wrap64 ((k : Int) - 1) = (k : Int) - 1 := by unfold wrap64; omega
theorem add1_i64 {k : Nat} (h : k ≤ 10000) : IntKind.i64.wrap ((k : Int) + 1) = (k : Int) + 1 := by rw [IntKind.wrap_i64]; omega
theorem add1_w {k : Nat} (h : k ≤ 10000) : wrap64 ((k : Int) + 1) = (k : Int) + 1 := by unfold wrap64; omega
theorem ssub1_i64 {i : Nat} (h : i ≤ 10000) : IntKind.i64.wrap (((i + 1 : Nat) : Int) - 1) = (i : Int) := by rw [IntKind.wrap_i64]; omega
theorem ssub1_w {i : Nat} (h : i ≤ 10000) : wrap64 (((i + 1 : Nat) : Int) - 1) = (i : Int) := by unfold wrap64; omega
theorem len_ok {x n : Nat} (h : x ≤ n + 1) : decide ((n : Int) + 1 < (x : Int)) = false := decide_eq_false (by omega)
theorem len_ne {x : Nat} (h : 0 < x) : ((x : Int) == 0) = false := by rw [beq_eq_false_iff_ne]; omega

theorem val_keep {σ : St} {t y : Int} (ht : σ.val t = 0) (hy : σ.val y = 1) : (σ.level.assign t (-1)).val y = 1 := by
  have e : vr y ≠ vr t := fun e => by
    rw [val_eq] at ht hy
    unfold lval lx at ht hy
    rw [e] at hy
    split at hy <;> split at ht <;> omega
  show lval (up σ.av (vr t) (1 + t % 2)) y = 1
  unfold lval
  rw [up_ne _ _ e]
  exact hy

theorem below_init {Z : Nat → Nat → Int} {m : Nat} (A : Nat → Int) : Below2 (St.init Z m).av A := fun v hv => absurd rfl hv


set_option maxRecDepth 100000 in
set_option maxHeartbeats 4000000 in
theorem law8 (n p : Int) (ca da : Option Addr) (m cc dn dc : Nat) (A : Nat → Option Addr) (L C : Nat → Nat) (Z : Nat → Nat → Int) (dz : Nat → Int) (w : World) (hpr : -2147483648 ≤ p ∧ p ≤ 2147483647) (hin : Ins w ca da m cc dn dc A L C Z dz) :
    Calls Try.prog 8 #[.int .i64 n, .slice ca m cc, .slice da dn dc, .int .i32 p] w fun e w' => LawPost w e w' := by
  go_enter Try.func8, Try.ntmps8
  go_wp2_with fail
  refine (bytes40 (fun b => b < w.heap.size) n p ca da m cc dn dc A L C Z w hin.R hin.m1 hin.L1 hin.d1).mono ?_
  rintro e w' ⟨⟨r, rfl⟩, hw9⟩
  have hw8 := hw9.symm
  clear hw9
  subst hw8
  cases r
  · go_wp2
    go_ret
    exact ⟨rfl, Below.refl _ _⟩
  go_wp2_with fail
  refine (bytesWithin_any (fun b => b < w.heap.size) ca da m cc dn dc A L C Z w hin.R hin.m1 hin.L1 hin.d1).mono ?_
  rintro e w' ⟨⟨r, rfl, hbw⟩, hw9⟩
  have hw8 := hw9.symm
  clear hw9
  subst hw8
  cases r
  · go_wp2
    go_ret
    exact ⟨rfl, Below.refl _ _⟩
  have hLb := hbw rfl
  have hm1 := hin.m1
  have hd1 := hin.d1
  unfold maxLen at hm1 hd1
  have HLb := hide hLb
  clear hLb hbw
  by_cases hm2 : (65536 : Int) < (m : Int)
  · go_wp2
    go_ret
    exact ⟨rfl, Below.refl _ _⟩
  by_cases hd2 : (262144 : Int) < (dn : Int)
  · go_wp2
    go_ret
    exact ⟨rfl, Below.refl _ _⟩
  by_cases hn1 : n < 1
  · go_wp2
    go_ret
    exact ⟨rfl, Below.refl _ _⟩
  by_cases hn2 : 4096 < n
  · go_wp2
    go_ret
    exact ⟨rfl, Below.refl _ _⟩
  go_wp2_with fail
  refine (wellFormed_any (fun b => b < w.heap.size) n ca da m cc dn dc A L C Z dz w hin.R hin.I (fun b hb => hb) (by omega) hin.L1 (by omega) hin.zb hin.db).mono ?_
  rintro e w1 ⟨⟨r, rfl, hwf⟩, hb1⟩
  cases r
  · go_wp2
    go_ret
    exact ⟨rfl, hb1⟩
  obtain ⟨nn, rfl, hnn1, hnn2, hcl, hdz⟩ := hwf rfl
  clear hwf
  have hf : Form nn m L Z := ⟨hnn2, by omega, fun i hi => (hcl i hi).1, fun i hi => HLb.out i hi, fun i hi k hk => (hcl i hi).2.1 k hk, fun i hi => (hcl i hi).2.2⟩
  have Hdz := hide hdz
  clear hcl hdz
  have hwp : wrap64 p = p := by unfold wrap64; omega
  have hwp1 : IntKind.i64.wrap p = p := by rw [IntKind.wrap_i64]; omega
  have hwp2 : wrap64 (2 * (nn : Int)) = 2 * (nn : Int) := by unfold wrap64; omega
  have hwp3 : IntKind.i64.wrap (2 * (nn : Int)) = 2 * (nn : Int) := by rw [IntKind.wrap_i64]; omega
  by_cases hp1 : p < 0
  · go_wp2
    go_ret
    exact ⟨rfl, hb1⟩
  by_cases hp2 : 2 * (nn : Int) ≤ p
  · go_wp2
    go_ret
    exact ⟨rfl, hb1⟩
  go_wp2_with fail
  refine (cloneClauses_any (fun b => b < w.heap.size) ca m cc A L C Z w1 (hin.R.frame (fun b hb => hb1.block b hb)) (fun b hb => Nat.lt_of_lt_of_le hb hb1.size) hin.cn hin.an (by omega) (fun i hi => HLb.out i hi)).mono ?_
  rintro e w2 ⟨⟨ca', cc', A', C', rfl, _, hR2⟩, hb2⟩
  go_wp2_with fail
  refine (cloneInt_any (fun b => b < w.heap.size) da dn dc dz w2 (hin.I.frame (fun b hb => ((hb1.trans (hb2.mono hb1.size)).block b hb))) (fun b hb => Nat.lt_of_lt_of_le hb (Nat.le_trans hb1.size hb2.size)) hin.dnil (by omega)).mono ?_
  rintro e w3 ⟨⟨da', dc', rfl, _, hI3⟩, hb3⟩
  have hR3 : SlR (fun b => b < w3.heap.size) w3 ca' m A' L C' Z := fun i hi => by
    have hs := hb3.size
    obtain ⟨⟨b, o, h1, h2, h3⟩, h4⟩ := (hR2.frame (w' := w3) (fun b hb => hb3.block b hb.2)) i hi
    exact ⟨⟨b, o, h1, Nat.lt_of_lt_of_le h2.2 hs, h3⟩, h4.weaken (fun b hb => Nat.lt_of_lt_of_le hb.2 hs)⟩
  have hI4 : SlI (fun b => b < w3.heap.size) w3 da' dn dz := hI3.weaken (fun b hb => hb.2)
  have hb03 : Below w.heap.size w w3 := (hb1.trans (hb2.mono hb1.size)).trans (hb3.mono (Nat.le_trans hb1.size hb2.size))
  clear hR2 hI3 hb1 hb2 hb3 HLb
  go_wp2_with fail
  refine (build_any (fun b => b < w3.heap.size) nn m ca' cc' A' L C' Z w3 hR3 (fun b hb => hb) hf).mono ?_
  rintro e w4 ⟨sb, T, rfl, hRep, hG⟩
  obtain ⟨hb0, hw0⟩ := init_ok hf
  have hmb4 := hG.size
  go_wp2_with fail
  refine (run_any (fun b => b < w3.heap.size) da' dn dc' dz hf hRep hb0 hw0 rfl hmb4 (hI4.frame (fun b hb => (hG.block b hb rfl).1)) (fun b hb => ⟨by omega, (hG.block b hb rfl).2⟩) Hdz.out (by omega)).mono ?_
  rintro e w5 ⟨r, σ, T5, rfl, hRep5, hGs5, hb5, hres⟩
  have hG5 := hG.trans hGs5
  have Hin := hide hR3
  clear hRep hG hGs5 hb0 hw0 hR3 hI4 hin hmb4 Hdz hm1 hd1
  rcases hres with ⟨rfl, hw5, hq5⟩ | ⟨hr0, hr1⟩
  · have hp0 : 0 ≤ p := by omega
    have hp3 : p < 2 * (nn : Int) := by omega
    by_cases hpv : σ.val p = 0
    · have hpb : (σ.val p == 0) = true := by simp [hpv]
      clear hpv
      go_wp2_with (first | (go_at_call 15; refine (zzLit hRep5 p hp0 hp3 hnn2 hb5.av).mono ?_; rintro e w' ⟨rfl, q, rfl⟩))
      go_ret
      exact ⟨rfl, hb03.trans (((hG5.trans (Grew.drewN T5 w5 q)).below (Nat.le_refl _) (fun _ _ => rfl)).mono hb03.size)⟩
    · have hpb : (σ.val p == 0) = false := by simp [hpv]
      have hpa : σ.av (vr p) ≠ 0 := fun e => hpv ((lval_zero hb5.av).2 e)
      have Hq5 := hide hq5
      clear hpv hq5
      go_wp2_with (first | (go_at_call 15; refine (zzLit hRep5 p hp0 hp3 hnn2 hb5.av).mono ?_; rintro e w' ⟨rfl, q, rfl⟩))
      have hRep6 := hRep5.heap (w' := w5.drewN q) rfl
      have hG6 := hG5.trans (Grew.drewN T5 w5 q)
      clear hRep5 hG5
      generalize w5.drewN q = w6 at *
      obtain ⟨d, hdt⟩ := tells σ L p
      have Hd := hide hdt
      clear hdt
      refine (zzFinal p Hd hf hRep6 hb5 hp0 hp3 hpa hG6.size).mono ?_
      rintro e w7 ⟨cv, rfl, hC, hRep7, hGs7⟩
      have hG7 := hG6.trans hGs7
      obtain ⟨xs, Hxs, hC7⟩ := hC.gen
      clear hRep6 hG6 hGs7 hC
      have hxl : 0 < xs.length := by rw [Hxs.out]; simp
      have hxl2 : xs.length ≤ nn + 1 := by rw [Hxs.out]; have := coreOf_len σ d 0; have := hb5.trlen; simp; omega
      have hx10 : xs.length ≤ 10000 := by omega
      have hn10 : nn ≤ 10000 := by omega
      obtain ⟨cg, ccap, rfl, _, hcg, _, hcells⟩ := hC7.cells hxl
      have c0 : w7.cell? ⟨cg, 0, none⟩ = some (.int .i32 p) := hcells 0 p (by rw [Hxs.out]; rfl)
      have hx0 : ((xs.length : Int) == 0) = false := len_ne hxl
      have hxi : (0 : Int) < (xs.length : Int) := by omega
      have hwn : IntKind.i64.wrap ((nn : Int) + 1) = (nn : Int) + 1 := add1_i64 hn10
      have hwn2 : wrap64 ((nn : Int) + 1) = (nn : Int) + 1 := add1_w hn10
      have hxn : decide ((nn : Int) + 1 < (xs.length : Int)) = false := len_ok hxl2
      have Hcells := hide hcells
      have hsnf : ∀ v, v < nn → σ.sn v = false := fun v _ => hb5.sn v
      clear hcells hC7
      go_wp2_with (first | (go_at_call 37; refine (allClear hRep7 hnn2 hsnf).mono ?_; rintro e w' ⟨rfl, hw9⟩; have hw8 := hw9.symm; clear hw9; subst hw8))
      have hRc : SlR (fun b => b < w7.heap.size) w7 ca' m A' L C' Z := fun i hi => by
        have hs := hG7.size
        obtain ⟨⟨b, o, h1, h2, h3⟩, h4⟩ := (Hin.out.frame (w' := w7) (fun b hb => (hG7.block b hb rfl).1)) i hi
        exact ⟨⟨b, o, h1, Nat.lt_of_lt_of_le h2 hs, h3⟩, h4.weaken (fun b hb => Nat.lt_of_lt_of_le hb hs)⟩
      refine (build_any (fun b => b < w7.heap.size) nn m ca' cc' A' L C' Z w7 hRc (fun b hb => hb) hf).mono ?_
      rintro e w8 ⟨fb, T8, rfl, hRep8, hG8⟩
      obtain ⟨hb0, hw0⟩ := init_ok hf
      have HS : Hid (L8Rel nn m L Z w7 fb σ xs (xs.length - 1) (.int .i64 ((xs.length : Int) - 1)) w8) := ⟨xs.length - 1, St.init Z m, T8, by omega, rfl, by congr 1; omega, hRep8, hb0, hw0, rfl, below_init _, fun j l hj hl => by have := (List.getElem?_eq_some_iff.1 hl).1; omega, hG8⟩
      have hwx : IntKind.i64.wrap ((xs.length : Int) - 1) = (xs.length : Int) - 1 := sub1_i64 hx10
      have hwx2 : wrap64 ((xs.length : Int) - 1) = (xs.length : Int) - 1 := sub1_w hx10
      clear hRep8 hG8 hb0 hw0 hRc hRep7 c0 hsnf
      go_wp2_with fail
      clear hwx hwx2 hwn hwn2 hxn hx0
      go_loopg [13] (xs.length - 1) (fun g iv wr => L8Rel nn m L Z w7 fb σ xs g iv wr)
      case atStart => exact HS.out
      case round =>
        clear HS
        obtain ⟨i, σf, Tr, hi, hgi, rfl, hRep, hb, hw, hq, hbl, hdone, hG⟩ := hrel
        have Hgi := hide hgi
        have Hq := hide hq
        have Hdone := hide hdone
        clear hgi hq hdone
        cases i with
        | zero =>
          have hpe := core_forces hf hb5 hpa hb hw Hq.out hbl Hd.out (fun t ht => by
            obtain ⟨j, hj⟩ := List.mem_iff_getElem?.1 ht
            exact Hdone.out (j + 1) t (by omega) (by rw [Hxs.out, List.getElem?_cons_succ]; exact hj))
          have hpeb : (σf.val p == σ.val p) = true := by rw [hpe]; simp
          have hge : decide ((1 : Int) ≤ ((0 : Nat) : Int)) = false := by simp
          clear hpe
          go_wp2_with (first | (go_at_call 15; refine (zzLit hRep p hp0 hp3 hnn2 hb.av).mono ?_; rintro e w' ⟨rfl, q, rfl⟩))
          go_ret
          exact ⟨rfl, hb03.trans ((((hG7.below (Nat.le_refl _) (fun _ _ => rfl))).trans (((hG.trans (Grew.drewN Tr wr q)).below (Nat.le_refl _) (fun _ _ => rfl)).mono hG7.size)).mono hb03.size)⟩
        | succ i =>
          have hge : decide ((1 : Int) ≤ ((i + 1 : Nat) : Int)) = true := decide_eq_true (by omega)
          obtain ⟨t, ht⟩ : ∃ t, xs[i + 1]? = some t := ⟨_, List.getElem?_eq_getElem hi⟩
          have htc : t ∈ coreOf σ d 0 := by
            have h1 := ht
            rw [Hxs.out, List.getElem?_cons_succ] at h1
            exact List.mem_of_getElem? h1
          have htm := ((coreOf_mem Hd.out).1 htc).1
          have htr := hb5.trng t htm
          have ct : wr.cell? ⟨cg, i + 1, none⟩ = some (.int .i32 t) := (World.cell?_of_block (w := w7) (hG.block cg hcg rfl).1).trans (Hcells.out (i + 1) t ht)
          have hii : ((i + 1 : Nat) : Int) < (xs.length : Int) := by omega
          have hii0 : (0 : Int) ≤ ((i + 1 : Nat) : Int) := by omega
          have hi10 : i ≤ 10000 := by omega
          have hwi : IntKind.i64.wrap (((i + 1 : Nat) : Int) - 1) = (i : Int) := ssub1_i64 hi10
          have hwi2 : wrap64 (((i + 1 : Nat) : Int) - 1) = (i : Int) := ssub1_w hi10
          have Ht := hide ht
          clear ht htc
          have hstep : σf.val t = 1 → ∀ j l, i < j → xs[j]? = some l → σf.val l = 1 := fun h1 j l hj hl => by
            by_cases e : j = i + 1
            · subst e
              rw [Ht.out] at hl
              obtain rfl : t = l := by simpa using hl
              exact h1
            · exact Hdone.out j l (by omega) hl
          by_cases hv : σf.val t = 0
          · have hvb : (σf.val t == 1) = false := by rw [hv]; rfl
            have hvb2 : (σf.val t == 2) = false := by rw [hv]; rfl
            obtain ⟨hbd, hwd⟩ := decide_ok hf hb hw htr.1 htr.2 hv
            obtain ⟨htr0, htl0⟩ := decide_len hbd
            have hbl1 := below_decide hb5 hbl htm
            have hv1 : (σf.level.assign t (-1)).val t = 1 := lval_up_self σf.av t
            have hex1 : ∀ y, σf.val y = 1 → (σf.level.assign t (-1)).val y = 1 := fun y hy => val_keep hv hy
            clear hv
            go_wp2_with (first | (go_at_call 15; refine (zzLit hRep t htr.1 htr.2 hnn2 hb.av).mono ?_; rintro e w' ⟨rfl, q, rfl⟩))
            have hRep1 := hRep.heap (w' := wr.drewN q) rfl
            have hG1 := hG.trans (Grew.drewN Tr wr q)
            have hB1 := hG1.size
            clear hRep hG ct
            generalize wr.drewN q = w9 at *
            refine (zzLevel hRep1 (by omega) (by omega) hB1).mono ?_
            rintro e wa ⟨rfl, Ta, hRepa, hGsa⟩
            have hGa := hG1.trans hGsa
            have hBa := hGa.size
            clear hRep1 hG1 hGsa
            go_wp2_with fail
            refine (zzAssign hRepa t (-1) htr.1 htr.2 hnn2 (by show σf.tr.length ≤ 4096; omega) (by show (σf.tl ++ [_]).length ≤ 4096; simp; omega) hBa).mono ?_
            rintro e wb ⟨rfl, Tb, hRepb, hGsb⟩
            have hGb := hGa.trans hGsb
            have hBb := hGb.size
            clear hRepa hGa hGsb
            go_wp2_with fail
            refine (zzProp hf hRepb hbd hwd hBb).mono ?_
            rintro e wc ⟨c, σ2, Tc, rfl, hRepc, hGsc, hbc, hxc, hresc⟩
            have hGc := hGb.trans hGsc
            obtain ⟨hblc, hcalm⟩ := core_calm hf hb5 hw5 Hq5.out hbd hbc hxc hbl1
            clear hRepb hGb hGsc
            rcases hresc with ⟨rfl, hwc, hqc⟩ | ⟨hc0, hc1, hall⟩
            · have Hqc := hide hqc
              have Hd2 : Hid (∀ j l, i < j → xs[j]? = some l → σ2.val l = 1) := fun j l hj hl => by
                by_cases e : j = i + 1
                · subst e
                  rw [Ht.out] at hl
                  obtain rfl : t = l := by simpa using hl
                  exact hxc.val hv1
                · exact hxc.val (hex1 l (Hdone.out j l (by omega) hl))
              clear hqc hcalm
              go_wp2_with fail
              go_roundg i
              case measure => rw [Hgi.out]; omega
              case rel => exact ⟨i, σ2, Tc, by omega, rfl, by go_num, hRepc, hbc, hwc, Hqc.out, hblc, Hd2.out, hGc⟩
            · exact (hcalm c.toNat (by omega) hall).elim
          · have hv1 := core_set hb5 hb hbl htm hv
            have hvb : (σf.val t == 1) = true := by rw [hv1]; rfl
            clear hv
            go_wp2_with (first | (go_at_call 15; refine (zzLit hRep t htr.1 htr.2 hnn2 hb.av).mono ?_; rintro e w' ⟨rfl, q, rfl⟩))
            go_roundg i
            case measure => rw [Hgi.out]; omega
            case rel => exact ⟨i, σf, Tr, by omega, rfl, by go_num, hRep.heap rfl, hb, hw, Hq.out, hbl, hstep hv1, hG.trans (Grew.drewN Tr wr q)⟩
  · have hrb : decide (0 ≤ r) = true := by simp [hr0]
    go_wp2
    go_ret
    exact ⟨rfl, hb03.trans ((hG5.below (Nat.le_refl _) (fun _ _ => rfl)).mono hb03.size)⟩
end Go.Proofs.Qxb6600345a

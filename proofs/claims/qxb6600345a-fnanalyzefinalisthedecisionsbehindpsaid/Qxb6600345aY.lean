import Derived.Test.Qxb6600345aX
/-! 'analyzeFinal'. -/
namespace Go.Proofs.Qxb6600345a
open Go.RowKit
set_option linter.unusedVariables false
set_option linter.unusedSimpArgs false

/-- a slice of literals that lies beside the solver, in blocks from B0 on -/
structure Core (B0 : Nat) (T : Nat → Nat) (w : World) (v : Value) (xs : List Int) : Prop where
  own : w.ownsRow B0 33 1 v xs.length (xs.map (Value.int .i32))
  tag : ∀ k, v.ownBlock = some k → T k = 0

theorem Core.frame {B0 : Nat} {T : Nat → Nat} {w w' : World} {v : Value} {xs : List Int} (h : Core B0 T w v xs) (e : ∀ b, T b = 0 → b < w.heap.size → w'.heap[b]? = w.heap[b]?) : Core B0 T w' v xs :=
  ⟨ownsRow_block h.own fun k hk => e k (h.tag k hk) (h.own.lt k hk).2, h.tag⟩

theorem Core.heap {B0 : Nat} {T : Nat → Nat} {w w' : World} {v : Value} {xs : List Int} (h : Core B0 T w v xs) (e : w'.heap = w.heap) : Core B0 T w' v xs := h.frame fun _ _ _ => by rw [e]

theorem Core.setCell {B0 : Nat} {T : Nat → Nat} {w : World} {v : Value} {xs : List Int} (h : Core B0 T w v xs) {a : Addr} {u : Value} (ha : T a.block ≠ 0) : Core B0 T (w.setCell a u) v xs :=
  h.frame fun b hb _ => Below.heap_setCell _ _ _ _ (by rintro rfl; exact ha hb)

theorem Core.gen {B0 : Nat} {T : Nat → Nat} {w : World} {v : Value} {ys : List Int} (h : Core B0 T w v ys) : ∃ xs, Hid (xs = ys) ∧ Core B0 T w v xs := ⟨ys, hide rfl, h⟩

theorem oL_cell {n m B sb : Nat} {len : Nat → Nat} {x : Option Nat} {T : Nat → Nat} {w : World} {σ : St} {L : Lay} (h : RepL n m len B x T w sb σ L) {k : Nat} {t : Int} (hk : σ.tl[k]? = some t) :
    ∃ g cap, L.lv = .slice (some ⟨g, 0, none⟩) σ.tl.length cap ∧ w.cell? ⟨g, k, none⟩ = some (.int .i64 t) := by
  have hlt : k < σ.tl.length := (List.getElem?_eq_some_iff.1 hk).1
  rcases h.oL.2 with ⟨_, h0⟩ | ⟨g, cap, cur, hv, rest⟩
  · omega
  · refine ⟨g, cap, hv, ?_⟩
    have := h.oL.cells (g := g) (by rw [hv]; rfl) k (.int .i64 t) (by rw [List.getElem?_map, hk]; rfl)
    rw [Addr.add_lit] at this
    simpa using this

theorem St.sn_eta {σ : St} (h : ∀ v, σ.sn v = false) : ({ σ with sn := fun _ => false } : St) = σ := by
  obtain ⟨cl, wt, av, lv, rs, tr, tl, qh, sn⟩ := σ
  have : sn = fun _ => false := funext h
  subst this
  rfl

def AFPost (n m : Nat) (len : Nat → Nat) (B : Nat) (T : Nat → Nat) (w : World) (sb : Nat) (σ : St) (p : Int) (d : Nat → Bool) (e : Ending) (w' : World) : Prop :=
  ∃ v, e = .returned v ∧ Core w.heap.size T w' v (p :: coreOf σ d 0) ∧ Rep n m len B none T w' sb σ ∧ Grew T T w w'

def AFRel (n m : Nat) (len : Nat → Nat) (B : Nat) (T : Nat → Nat) (w0 : World) (sb : Nat) (σ : St) (p : Int) (d : Nat → Bool) (g : Nat) (cv iv : Value) (wr : World) : Prop :=
  ∃ (i : Nat) (s : Nat → Bool), i ≤ σ.tr.length ∧ g = i ∧ iv = .int .i64 ((i : Int) - 1) ∧ Core w0.heap.size T wr cv (p :: coreOf σ d i) ∧ Rep n m len B none T wr sb { σ with sn := s } ∧ Seen σ len p i s ∧ Grew T T w0 wr

def AFIn (n m : Nat) (len : Nat → Nat) (B : Nat) (T : Nat → Nat) (w0 : World) (sb : Nat) (σ : St) (s : Nat → Bool) (v0 r : Nat) (cv : Value) (xs : List Int) (L : Lay) (g : Nat) (jv : Value) (wr : World) : Prop :=
  ∃ (jj : Nat) (s' : Nat → Bool), jj ≤ len r - 1 ∧ g = len r - 1 - jj ∧ jv = .int .i64 jj ∧ Core w0.heap.size T wr cv xs ∧ RepL n m len B none T wr sb { σ with sn := s' } L ∧ Mark s v0 (σ.cl r) jj s' ∧ Grew T T w0 wr

set_option maxRecDepth 100000 in
set_option maxHeartbeats 2000000 in
theorem analyzeFinal_any {n m B sb : Nat} {len : Nat → Nat} {cl0 : Nat → Nat → Int} {T : Nat → Nat} {w : World} {σ : St} (p : Int) {d : Nat → Bool} (Hd : Hid (Tells σ len p d)) (hf : Form n m len cl0) (h : Rep n m len B none T w sb σ) (hb : Base n m len cl0 σ) (hp0 : 0 ≤ p) (hp1 : p < 2 * (n : Int)) (hpv : σ.av (vr p) ≠ 0) (hB : B ≤ w.heap.size) :
    Calls Try.prog 51 #[.pointer (some ⟨sb, 0, none⟩), .int .i32 p] w fun e w' => AFPost n m len B T w sb σ p d e w' := by
  have hn := hf.n1
  have htrl := hb.trlen
  have hpvr : vr p < n := by unfold vr; omega
  have hi1 : (0 : Int) ≤ p / 2 := by omega
  have hi2 : p / 2 < (n : Int) := by omega
  obtain ⟨kp, tp, htp, evp⟩ : ∃ (k : Nat) (t : Int), σ.tr[k]? = some t ∧ vr t = vr p := by
    obtain ⟨t, ht, e⟩ := hb.tcov _ hpv
    obtain ⟨k, hk⟩ := List.mem_iff_getElem?.1 ht
    exact ⟨k, t, hk, e⟩
  have hlvp := hb.lv_pos hf ⟨kp, tp, htp, evp⟩
  have htl0 : σ.tl[0]? = some 0 := by
    have h1 := hb.tll
    have h2 := decs_pos hf hb (σ.tr.length - 1) (by have := (List.getElem?_eq_some_iff.1 htp).1; omega)
    have h3 : σ.tr.length - 1 + 1 = σ.tr.length := by have := (List.getElem?_eq_some_iff.1 htp).1; omega
    rw [h3, ← h1] at h2
    have h4 := List.getElem?_eq_getElem (l := σ.tl) (i := 0) (by omega)
    rw [h4, hb.tl0 _ h4]
  have htll := hb.tllen
  have hlvb : (σ.lv (vr p) == 0) = false := by simp; omega
  obtain ⟨L, hL⟩ := h
  have hL1 := hL.alloc (.cells #[.int .i32 p] 33)
  have hG1 := Grew.alloc T w (.cells #[.int .i32 p] 33)
  have hC1 : Core w.heap.size T (w.alloc (.cells #[.int .i32 p] 33)) (.slice (some ⟨w.heap.size, 0, none⟩) 1 1) [p] := by
    refine ⟨own_of_rowIs (f := fun _ => .int .i32 p) ⟨#[.int .i32 p], heap_alloc_new w _, rfl, fun i hi => ?_⟩ rfl (by omega) (by unfold maxLen; omega) (Nat.le_refl _) (fun j hj => ?_), ?_⟩
    · obtain rfl : i = 0 := by omega
      rfl
    · obtain rfl : j = 0 := by omega
      rfl
    · rintro k hk
      obtain rfl : w.heap.size = k := by simpa [Value.ownBlock] using hk
      exact Rep.tnew ⟨L, hL⟩
  go_enter Try.func51, Try.ntmps51
  go_upto_region 2 with fail
  generalize hw1 : w.alloc (.cells #[.int .i32 p] 33) = w1 at *
  clear hw1
  have hcall : ∀ q, Calls Try.prog 25 #[.int .i32 p] (w1.drewN q) fun e w' => e = .returned (.int .i32 (p / 2)) ∧ ∃ n, w' = (w1.drewN q).drewN n := fun q => (var_any p _).mono fun e w' hh => ⟨hh.1, 0, hh.2⟩
  have HC := hide hcall
  have c3 := hL1.fS.cell (i := 3) (by decide)
  rw [hL1.f3] at c3
  have cL : w1.cell? ⟨L.lb, (p / 2).toNat, none⟩ = some (.int .i32 (σ.lv (vr p))) := hL1.rL.cell hpvr
  clear hcall
  go_quiet ((go_at_call 25; exact Calls.quiet_of (HC.out _)))
  clear HC c3 cL
  have hL2 := hL1.heap (w' := w1.drewN nq) rfl
  have hC2 := hC1.heap (w' := w1.drewN nq) rfl
  have hG2 := hG1.trans (Grew.drewN T w1 nq)
  clear hL1 hC1 hG1
  generalize hw2 : w1.drewN nq = w2 at *
  clear hw2
  go_wp2_with fail
  have c14 := hL2.fS.cell (i := 14) (by decide)
  rw [hL2.f14] at c14
  have cN : w2.cell? ⟨L.nb, (p / 2).toNat, none⟩ = some (.bool (σ.sn (vr p))) := hL2.rN.cell hpvr
  have zN := hL2.rN.frozen (p / 2).toNat
  have hne : ¬ sb = L.nb := by intro e; have := hL.tN; rw [← e, hL.tS] at this; cases this
  have hne' : ¬ L.nb = sb := fun e => hne e.symm
  go_region_held3 (fun w' => w'.cell? ⟨sb, 14, none⟩ = some (.slice (some ⟨L.nb, 0, none⟩) n n)) (go_keep)
    (first | (go_at_call 25; refine (var_any _ _).mono ?_; rintro e w' ⟨rfl, rfl⟩))
  have hTN : T L.nb ≠ 0 := by rw [hL.tN]; decide
  have hL3 := (hL2.setN (vr p) true).heap (w' := (w2.setCell ⟨L.nb, (p / 2).toNat, none⟩ (.bool true)).drew) rfl
  have hC3 := (hC2.setCell (a := ⟨L.nb, (p / 2).toNat, none⟩) (u := .bool true) hTN).heap (w' := (w2.setCell ⟨L.nb, (p / 2).toNat, none⟩ (.bool true)).drew) rfl
  have hG3 : Grew T T w (w2.setCell ⟨L.nb, (p / 2).toNat, none⟩ (.bool true)).drew := hG2.trans ((grew_setCell (T := T) hTN).trans (Grew.drewN T _ 1))
  clear c14 cN zN hL2 hC2 hG2
  generalize hw3 : (w2.setCell ⟨L.nb, (p / 2).toNat, none⟩ (.bool true)).drew = w3 at *
  clear hw3
  obtain ⟨ta, tc, htv⟩ := ownsRow_len hL3.oT
  have c5 := hL3.fS.cell (i := 5) (by decide)
  rw [hL3.f5, htv] at c5
  have hs1 := Seen.start hb hpv
  have HS : Hid (AFRel n m len B T w sb σ p d σ.tr.length (.slice (some ⟨w.heap.size, 0, none⟩) 1 1) (.int .i64 ((σ.tr.length : Int) - 1)) w3) := ⟨σ.tr.length, _, Nat.le_refl _, rfl, rfl, by rw [coreOf_end]; exact hC3, ⟨L, hL3⟩, hs1, hG3⟩
  have hwsub : IntKind.i64.wrap ((σ.tr.length : Int) - 1) = (σ.tr.length : Int) - 1 := by rw [IntKind.wrap_i64]; omega
  have hwsub2 : wrap64 ((σ.tr.length : Int) - 1) = (σ.tr.length : Int) - 1 := by unfold wrap64; omega
  clear hs1 hL3 hC3 hG3 hL htv hlvb hlvp hne hne' hTN
  go_wp2_with fail
  clear c5 hwsub hwsub2
  go_loopg [5, 6] σ.tr.length (fun g cv iv wr => AFRel n m len B T w sb σ p d g cv iv wr)
  case atStart => exact HS.out
  case round =>
    clear HS
    obtain ⟨i, s, hi, hgi, rfl, hC0, ⟨L, hL⟩, hs, hG⟩ := hrel
    have Hgi := hide hgi
    clear hgi
    obtain ⟨lg, lcap, hlv, cl⟩ := oL_cell hL htl0
    have c6 := hL.fS.cell (i := 6) (by decide)
    rw [hL.f6, hlv] at c6
    clear hlv
    obtain ⟨xs, Hxs, hC⟩ := hC0.gen
    clear hC0
    obtain ⟨ca, cc, rfl⟩ := ownsRow_len hC.own
    have hll : xs.length ≤ 4097 := by rw [Hxs.out]; have := coreOf_len σ d i; simp; omega
    have htlp : 0 < σ.tl.length := (List.getElem?_eq_some_iff.1 htl0).1
    have htlp2 : (0 : Int) < (σ.tl.length : Int) := by omega
    cases i with
    | zero =>
      have hsd := hs.done
      subst hsd
      have hge : decide ((0 : Int) ≤ ((0 : Nat) : Int) - 1) = false := by simp
      go_wp2_with fail
      go_ret
      refine ⟨_, rfl, Hxs.out ▸ hC, ?_, hG⟩
      have e := St.sn_eta hb.sn
      rw [e] at hL
      exact ⟨L, hL⟩
    | succ k =>
      have e1 : ((k + 1 : Nat) : Int) - 1 = (k : Int) := by omega
      rw [e1]
      clear e1
      have hkl : k < σ.tr.length := by omega
      obtain ⟨t, ht⟩ : ∃ t, σ.tr[k]? = some t := ⟨_, List.getElem?_eq_getElem hkl⟩
      have htm := List.mem_of_getElem? ht
      have htr := hb.trng t htm
      have hvt : vr t < n := by unfold vr; omega
      obtain ⟨tg, tcap, htv, ct⟩ := oT_cell hL ht
      have c5 := hL.fS.cell (i := 5) (by decide)
      rw [hL.f5, htv] at c5
      have c14 := hL.fS.cell (i := 14) (by decide)
      rw [hL.f14] at c14
      have cN : wr.cell? ⟨L.nb, (t / 2).toNat, none⟩ = some (.bool (s (vr t))) := hL.rN.cell hvt
      have zN := hL.rN.frozen (t / 2).toNat
      have ht1 : (0 : Int) ≤ t / 2 := by omega
      have ht2 : t / 2 < (n : Int) := by omega
      have hge : decide ((0 : Int) ≤ (k : Int)) = true := by simp
      have hkl2 : (k : Int) < (σ.tr.length : Int) := by omega
      have hat := hs.at hf hb ht
      have hcs := coreOf_step (len := len) (p := p) Hd.out ht
      clear htv
      have Hht := hide ht
      clear ht
      have hwk : IntKind.i64.wrap ((k : Int) - 1) = (k : Int) - 1 := by rw [IntKind.wrap_i64]; omega
      have hwk2 : wrap64 ((k : Int) - 1) = (k : Int) - 1 := by unfold wrap64; omega
      by_cases hst : s (vr t) = true
      · have hre := hat.1 hst
        rw [hst] at cN
        clear hat
        go_upto_region 10 with (go_at_call 25; refine (var_any _ _).mono ?_; rintro e w' ⟨rfl, hw9⟩; have hw8 := hw9.symm; clear hw9; subst hw8)
        have hTN : T L.nb ≠ 0 := by rw [hL.tN]; decide
        go_upto_region 11 with fail
        have hL1 := hL.setN (vr t) false
        have hC1 := hC.setCell (a := ⟨L.nb, (t / 2).toNat, none⟩) (u := .bool false) hTN
        have hG1 : Grew T T w (wr.setCell ⟨L.nb, (t / 2).toNat, none⟩ (.bool false)) := hG.trans (grew_setCell (T := T) hTN)
        have hB1 := Nat.le_trans hB hG1.size
        have hvr : vr t = (t / 2).toNat := rfl
        rw [hvr] at hL1
        clear c5 c6 c14 cl ct cN zN
        generalize hw4 : wr.setCell ⟨L.nb, (t / 2).toNat, none⟩ (.bool false) = w4 at *
        clear hw4
        rw [← hvr] at hL1
        clear hvr
        have c4 := hL1.fS.cell (i := 4) (by decide)
        rw [hL1.f4] at c4
        have cR : w4.cell? ⟨L.rb, (t / 2).toNat, none⟩ = some (.int .i32 (σ.rs (vr t))) := hL1.rR.cell hvt
        rcases hb.rsr Hht.out with hr | ⟨hr0, hr1⟩
        · rw [hr] at cR
          obtain ⟨tg', tcap', htv', ct⟩ := oT_cell hL1 Hht.out
          have c5 := hL1.fS.cell (i := 5) (by decide)
          rw [hL1.f5, htv'] at c5
          clear htv'
          have hcc := hcs.1 ⟨hre, hr⟩
          have hsd := hs.dec hf hb Hht.out hr
          have hL2 := hL1.alloc (.cells #[.int .i32 t] 33)
          have hC2 : Core w.heap.size T (w4.alloc (.cells #[.int .i32 t] 33)) (.slice ca xs.length cc) xs := hC1.frame fun b _ hb => Below.heap_alloc w4 _ b hb
          have hG2 := hG1.trans (Grew.alloc T w4 (.cells #[.int .i32 t] 33))
          obtain ⟨i0, hi0, hz0, hz1, hz2⟩ := info_parts info33
          have hw0s : w.heap.size ≤ (w4.alloc (.cells #[.int .i32 t] 33)).heap.size := hG2.size
          have hoC := hC2.own
          have htagC := hC2.tag
          have hxs2 : p :: coreOf σ d k = xs ++ [t] := by rw [hcc, Hxs.out]; rfl
          have Hxs2 := hide hxs2
          clear hcs hs hL1 hC1 hG1 hC2 hC hL hG hcc hxs2
          go_wp2_with (at_builtin; go_loud (refine wpList_append_lies _ rfl _ _ 53 rfl w.heap.size 33 i0 (.int .i32 0) 1 4 Try.underlying53 hi0 hz0 hz1 hz2 rfl (by decide) (.slice ca xs.length cc) xs.length (xs.map (Value.int .i32)) rfl hoC ⟨w4.heap.size, 0, none⟩ 1 1 [.int .i32 t] rfl rfl (World.news_of_block (heap_alloc_new w4 _)) (by simp [Value.oneCell']) (by decide) (by unfold maxLen; omega) (by omega) hw0s (w4.heap.size + 1) (by simp) ?_))
          intro g cap w5 hown hgrow hat hlt
          have hTg : T g = 0 := by
            rcases hat with e | e
            · exact htagC g e
            · exact Classical.byContradiction fun h0 => by have := (hL2.tz g h0).2; simp at this; omega
          have hL3 := hL2.frame hgrow.size (fun b hb h0 => hgrow.block b hb (fun e => h0 (htagC b e.symm)))
          have hG3 : Grew T T w w5 := ⟨hgrow.os.trans hG2.os, hgrow.tape.trans hG2.tape, hgrow.output.trans hG2.output, Nat.le_trans hG2.size hgrow.size, fun b hb h0 => ⟨(hgrow.block b (Nat.lt_of_lt_of_le hb hG2.size) (fun e => by have := (hoC.lt b e.symm).1; omega)).trans (hG2.block b hb h0).1, h0⟩⟩
          have hC3 : Core w.heap.size T w5 (.slice (some ⟨g, 0, none⟩) (xs.length + 1) cap) (p :: coreOf σ d k) := by
            rw [Hxs2.out]
            refine ⟨by simpa using hown, fun b hb => ?_⟩
            obtain rfl : g = b := by simpa [Value.ownBlock] using hb
            exact hTg
          clear hown hgrow hat hoC htagC hL2 hG2
          go_wp2_with fail
          go_roundg k
          case measure => rw [Hgi.out]; omega
          case rel => exact ⟨k, _, by omega, rfl, by go_num, hC3, ⟨L, hL3⟩, hsd, hG3⟩
        · obtain ⟨r, hr⟩ := Int.eq_ofNat_of_zero_le hr0
          rw [hr] at cR
          have hrm : r < m := by omega
          have hl2 := hf.l2 r hrm
          have hl3 := hf.l3 r hrm
          have c0 := hL1.fS.cell (i := 0) (by decide)
          rw [hL1.f0] at c0
          have cC : w4.cell? ⟨L.cb, r, none⟩ = some (.slice (some ⟨L.cf r, 0, none⟩) (len r) (len r)) := hL1.rC.cell hrm
          have hrb : ((r : Int) == -1) = false := by simp
          have hri : (r : Int) < (m : Int) := by omega
          have hcc := hcs.2 (fun hh => by omega)
          have hxs2 : xs = p :: coreOf σ d k := by rw [hcc]; exact Hxs.out
          have Hxs2 := hide hxs2
          have Hs := hide hs
          have HM : Hid (∀ q, AFIn n m len B T w sb σ s (vr t) r (.slice ca xs.length cc) xs L (len r - 1) (.int .i64 0) (w4.drewN q)) := fun q => ⟨0, _, by omega, rfl, rfl, hC1.heap rfl, hL1.heap rfl, Mark.start _ _ _, hG1.trans (Grew.drewN T w4 q)⟩
          clear hcs hs hL1 hC1 hG1 hC hL hG hcc hxs2 hr0 hr1
          go_wp2_with fail
          go_quiet (fail)
          clear c0 c4 cC cR
          obtain ⟨wo, hwo⟩ : ∃ wo : World, wo = wr := ⟨_, rfl⟩
          subst hwo
          go_wp2_with fail
          go_loopg [100] (len r - 1) (fun g jv wr => AFIn n m len B T w sb σ s (vr t) r (.slice ca xs.length cc) xs L g jv wr)
          case atStart => exact HM.out _
          case round =>
            clear HM
            obtain ⟨jj, s', hj, hgj, rfl, hC, hL, hM, hG⟩ := hrel
            have Hgj := hide hgj
            clear hgj
            by_cases hlj : jj < len r - 1
            · have hz := hb.cls.rng hf hrm (k := 1 + jj) (by omega)
              have hlp := hb.lv_reason hf Hht.out hr (j := 1 + jj) (by omega) (by omega)
              have hMs := hM.step
              have Hr := hide hr
              clear hr
              have cq : wr.cell? ⟨L.cf r, 1 + jj, none⟩ = some (.int .i32 (σ.cl r (1 + jj))) := (hL.rc r hrm).cell (by omega)
              generalize hqq : σ.cl r (1 + jj) = q at *
              have hvq : vr q < n := by unfold vr; omega
              have hq1 : (0 : Int) ≤ q / 2 := by omega
              have hq2 : q / 2 < (n : Int) := by omega
              have c3 := hL.fS.cell (i := 3) (by decide)
              rw [hL.f3] at c3
              have cL : wr.cell? ⟨L.lb, (q / 2).toNat, none⟩ = some (.int .i32 (σ.lv (vr q))) := hL.rL.cell hvq
              have hgt : decide (0 < σ.lv (vr q)) = true := by simp; omega
              have hcall : ∀ k, Calls Try.prog 25 #[.int .i32 q] (wr.drewN k) fun e w' => e = .returned (.int .i32 (q / 2)) ∧ ∃ n, w' = (wr.drewN k).drewN n := fun k => (var_any q _).mono fun e w' hh => ⟨hh.1, 0, hh.2⟩
              have HC := hide hcall
              clear hcall
              go_wp2_with fail
              go_quiet ((go_at_call 25; exact Calls.quiet_of (HC.out _)))
              clear HC c3 cL cq
              have hL2 := hL.heap (w' := wr.drewN nq) rfl
              have hC2 := hC.heap (w' := wr.drewN nq) rfl
              have hG2 := hG.trans (Grew.drewN T wr nq)
              clear hL hC hG
              generalize hw2 : wr.drewN nq = w2 at *
              clear hw2
              go_wp2_with fail
              have c14 := hL2.fS.cell (i := 14) (by decide)
              rw [hL2.f14] at c14
              have cN : w2.cell? ⟨L.nb, (q / 2).toNat, none⟩ = some (.bool (s' (vr q))) := hL2.rN.cell hvq
              have zN := hL2.rN.frozen (q / 2).toNat
              have hne : ¬ sb = L.nb := by intro e; have := hL2.tN; rw [← e, hL2.tS] at this; cases this
              have hne' : ¬ L.nb = sb := fun e => hne e.symm
              go_region_held3 (fun w' => w'.cell? ⟨sb, 14, none⟩ = some (.slice (some ⟨L.nb, 0, none⟩) n n)) (go_keep)
                (first | (go_at_call 25; refine (var_any _ _).mono ?_; rintro e w' ⟨rfl, rfl⟩))
              have hTN : T L.nb ≠ 0 := by rw [hL2.tN]; decide
              have hL3 := (hL2.setN (vr q) true).heap (w' := (w2.setCell ⟨L.nb, (q / 2).toNat, none⟩ (.bool true)).drew) rfl
              have hC3 := (hC2.setCell (a := ⟨L.nb, (q / 2).toNat, none⟩) (u := .bool true) hTN).heap (w' := (w2.setCell ⟨L.nb, (q / 2).toNat, none⟩ (.bool true)).drew) rfl
              have hG3 : Grew T T w (w2.setCell ⟨L.nb, (q / 2).toNat, none⟩ (.bool true)).drew := hG2.trans ((grew_setCell (T := T) hTN).trans (Grew.drewN T _ 1))
              clear c14 cN zN hL2 hC2 hG2
              generalize hw3 : (w2.setCell ⟨L.nb, (q / 2).toNat, none⟩ (.bool true)).drew = w3 at *
              clear hw3
              go_wp2_with fail
              go_roundg (len r - 1 - (jj + 1))
              case measure => rw [Hgj.out]; omega
              case rel => exact ⟨jj + 1, _, by omega, rfl, by go_num, hC3, hL3, hMs, hG3⟩
            · have hje : jj = len r - 1 := by omega
              subst hje
              have hsi := Hs.out.reason hf hb Hht.out hst hr (by omega) hM
              clear hM hr
              go_wp2_with fail
              go_roundg k
              case measure => rw [Hgi.out]; omega
              case rel => exact ⟨k, _, by omega, rfl, by go_num, Hxs2.out ▸ hC, ⟨L, hL⟩, hsi, hG⟩
      · have hsf : s (vr t) = false := by simpa using hst
        have hcc := hcs.2 (fun hh => hst (hat.2 hh.1))
        have hsk := hs.skip hf hb Hht.out hsf
        rw [hsf] at cN
        have hxs2 : xs = p :: coreOf σ d k := by rw [hcc]; exact Hxs.out
        have Hxs2 := hide hxs2
        clear hat hcs hs hxs2 hcc
        go_wp2_with (go_at_call 25; refine (var_any _ _).mono ?_; rintro e w' ⟨rfl, hw9⟩; have hw8 := hw9.symm; clear hw9; subst hw8)
        go_roundg k
        case measure => rw [Hgi.out]; omega
        case rel => exact ⟨k, s, by omega, rfl, by go_num, Hxs2.out ▸ hC, ⟨L, hL⟩, hsk, hG⟩
end Go.Proofs.Qxb6600345a

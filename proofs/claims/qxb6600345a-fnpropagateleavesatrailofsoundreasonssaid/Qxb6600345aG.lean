import Derived.Test.Qxb6600345aH
namespace Go.Proofs.Qxb6600345a
open Go.RowKit
set_option linter.unusedVariables false
set_option linter.unusedSimpArgs false

def PropPost (n m : Nat) (len : Nat → Nat) (cl0 : Nat → Nat → Int) (B : Nat) (T : Nat → Nat) (w : World) (sb : Nat) (σ : St) (e : Ending) (w' : World) : Prop :=
  ∃ r σ' T', e = .returned (.int .i32 r) ∧ Rep n m len B none T' w' sb σ' ∧ Grew T T' w w' ∧ Base n m len cl0 σ' ∧ Ext σ σ' ∧
    ((r = -1 ∧ WInv n m σ' 0 [] ∧ σ'.qh = σ'.tr.length) ∨ (0 ≤ r ∧ r < (m : Int) ∧ ∀ k, k < len r.toNat → σ'.val (σ'.cl r.toNat k) = 2))

def OutRel (n m : Nat) (len : Nat → Nat) (cl0 : Nat → Nat → Int) (B : Nat) (T : Nat → Nat) (w : World) (sb : Nat) (σ : St) (g : Nat) (wr : World) : Prop :=
  ∃ σr Tr, g = n - σr.qh ∧ Rep n m len B none Tr wr sb σr ∧ Grew T Tr w wr ∧ Base n m len cl0 σr ∧ WInv n m σr 0 [] ∧ Ext σ σr

def InRel (n m : Nat) (len : Nat → Nat) (cl0 : Nat → Nat → Int) (B : Nat) (T : Nat → Nat) (w : World) (sb : Nat) (σ : St) (qq : Nat) (p : Int) (W : List Int) (gb cap : Nat) (g : Nat) (kept iv : Value) (wr : World) : Prop :=
  ∃ (i : Nat) (K : List Int) (f : Nat → Value) (σr : St) (Tr : Nat → Nat), g = W.length - i ∧ i ≤ W.length ∧ K.length ≤ i ∧ iv = .int .i64 i ∧ kept = .slice (some ⟨gb, 0, none⟩) K.length cap ∧
    Rep n m len B (some p.toNat) Tr wr sb σr ∧ Grew T Tr w wr ∧ Tr gb = 0 ∧ wr.rowIs gb 21 cap f ∧ (∀ j, j < K.length → K[j]?.map (Value.int .i32) = some (f j)) ∧ (∀ j, i ≤ j → j < W.length → W[j]?.map (Value.int .i32) = some (f j)) ∧
    Base n m len cl0 σr ∧ WInv n m σr p (W.drop i) ∧ σr.wt p.toNat = K ++ W.drop i ∧ Ext σ σr ∧ p ∈ σr.tr ∧ σr.qh = qq

def MidRel (n m : Nat) (len : Nat → Nat) (cl0 : Nat → Nat → Int) (B : Nat) (T Tq : Nat → Nat) (w : World) (sb : Nat) (σ σq : St) (L : Lay) (p : Int) (R : List Int) (gb cap : Nat) (f : Nat → Value) (ci : Nat) (wc : World) : Prop :=
  ∃ σ1, RepL n m len B (some p.toNat) Tq wc sb σ1 L ∧ Grew T Tq w wc ∧ wc.rowIs gb 21 cap f ∧ Base n m len cl0 σ1 ∧ WInv n m σ1 p ((ci : Int) :: R) ∧ σ1.cl ci 1 = ng p ∧ σ1.wt = σq.wt ∧ Ext σ σ1 ∧ σ1.tr = σq.tr ∧ σ1.qh = σq.qh

theorem Ext.same {σ σ1 σ2 : St} (h : Ext σ σ1) (e1 : σ2.tr = σ1.tr) (e2 : σ2.av = σ1.av) (e3 : σ2.rs = σ1.rs) (e4 : σ2.tl = σ1.tl) : Ext σ σ2 := by
  obtain ⟨ys, h1, h2⟩ := h.tr
  exact ⟨⟨ys, e1.trans h1, by rw [e3]; exact h2⟩, by rw [e2, e3]; exact h.old, e4.trans h.tl⟩

theorem oT_cell {n m B sb : Nat} {len : Nat → Nat} {x : Option Nat} {T : Nat → Nat} {w : World} {σ : St} {L : Lay} (h : RepL n m len B x T w sb σ L) {k : Nat} {t : Int} (hk : σ.tr[k]? = some t) :
    ∃ g cap, L.tv = .slice (some ⟨g, 0, none⟩) σ.tr.length cap ∧ w.cell? ⟨g, k, none⟩ = some (.int .i32 t) := by
  have hlt : k < σ.tr.length := (List.getElem?_eq_some_iff.1 hk).1
  rcases h.oT.2 with ⟨_, h0⟩ | ⟨g, cap, cur, hv, rest⟩
  · omega
  · refine ⟨g, cap, hv, ?_⟩
    have := h.oT.cells (g := g) (by rw [hv]; rfl) k (.int .i32 t) (by rw [List.getElem?_map, hk]; rfl)
    rw [Addr.add_lit] at this
    simpa using this

theorem app_ok {n m B sb : Nat} {len : Nat → Nat} {x : Option Nat} {T Tq : Nat → Nat} {w wa : World} {σ1 : St} {L : Lay} (hL : RepL n m len B x Tq wa sb σ1 L) (hG : Grew T Tq w wa) {gb cap : Nat} (hgb : w.heap.size ≤ gb ∨ T gb ≠ 0) (hTg : Tq gb = 0)
    {f : Nat → Value} (hrow : wa.rowIs gb 21 cap f) (o : Obj) (k : Nat) (vs : List Value) :
    RepL n m len B x Tq ((wa.alloc o).setCells gb k vs) sb σ1 L ∧ Grew T Tq w ((wa.alloc o).setCells gb k vs) ∧
      ((wa.alloc o).setCells gb k vs).rowIs gb 21 cap (fun j => if k ≤ j ∧ j < k + vs.length then vs.getD (j - k) undef else f j) := by
  refine ⟨(hL.alloc o).frame (by rw [size_setCells']; exact Nat.le_refl _) fun b _ h0 => heap_setCells_ne gb vs k _ b (by rintro rfl; exact h0 hTg), (hG.trans (Grew.alloc Tq wa o)).set hgb k vs, rowIs_setCells vs k (hrow.alloc o)⟩

theorem one_at (k : Nat) (v : Value) (f : Nat → Value) (j : Nat) : (if k ≤ j ∧ j < k + [v].length then [v].getD (j - k) undef else f j) = if k ≤ j ∧ j < k + 1 then v else f j := by
  simp only [List.length_cons, List.length_nil, Nat.zero_add]
  split
  · rename_i h
    rw [show j - k = 0 by omega]
    rfl
  · rfl

theorem inrel_next {n m B sb : Nat} {len : Nat → Nat} {cl0 : Nat → Nat → Int} {T Tz : Nat → Nat} {w wz : World} {σ σz : St} {qq : Nat} {p : Int} {W K : List Int} {gb cap i ci : Nat} {f f' : Nat → Value}
    (hR : Rep n m len B (some p.toNat) Tz wz sb σz) (hG : Grew T Tz w wz) (hTg : Tz gb = 0) (hrow : wz.rowIs gb 21 cap f')
    (hf' : ∀ j, f' j = if K.length ≤ j ∧ j < K.length + 1 then (.int .i32 (ci : Int)) else f j)
    (hfK : ∀ j, j < K.length → K[j]?.map (Value.int .i32) = some (f j)) (hfW : ∀ j, i ≤ j → j < W.length → W[j]?.map (Value.int .i32) = some (f j))
    (hb : Base n m len cl0 σz) (hw : WInv n m σz p (W.drop (i + 1))) (hwt : σz.wt p.toNat = K ++ (ci : Int) :: W.drop (i + 1)) (hx : Ext σ σz) (hpt : p ∈ σz.tr) (hqq : σz.qh = qq) (hKi : K.length ≤ i) (hlt : i < W.length) :
    InRel n m len cl0 B T w sb σ qq p W gb cap (W.length - (i + 1)) (.slice (some ⟨gb, 0, none⟩) (K.length + 1) cap) (.int .i64 ((i : Int) + 1)) wz := by
  refine ⟨i + 1, K ++ [(ci : Int)], f', σz, Tz, rfl, by omega, by simp; omega, by simp, by simp, hR, hG, hTg, hrow, fun j hj => ?_, fun j h1 h2 => ?_, hb, hw, by rw [hwt]; simp, hx, hpt, hqq⟩
  · rw [hf']
    simp only [List.length_append, List.length_cons, List.length_nil] at hj
    by_cases e : j = K.length
    · subst e
      rw [if_pos (by omega)]
      simp
    · rw [if_neg (by omega), List.getElem?_append_left (by omega)]
      exact hfK j (by omega)
  · rw [hf', if_neg (by omega)]
    exact hfW j (by omega) h2

theorem inrel_drop {n m B sb : Nat} {len : Nat → Nat} {cl0 : Nat → Nat → Int} {T Tz : Nat → Nat} {w wz : World} {σ σz : St} {qq : Nat} {p : Int} {W K : List Int} {gb cap i : Nat} {f : Nat → Value}
    (hR : Rep n m len B (some p.toNat) Tz wz sb σz) (hG : Grew T Tz w wz) (hTg : Tz gb = 0) (hrow : wz.rowIs gb 21 cap f)
    (hfK : ∀ j, j < K.length → K[j]?.map (Value.int .i32) = some (f j)) (hfW : ∀ j, i ≤ j → j < W.length → W[j]?.map (Value.int .i32) = some (f j))
    (hb : Base n m len cl0 σz) (hw : WInv n m σz p (W.drop (i + 1))) (hwt : σz.wt p.toNat = K ++ W.drop (i + 1)) (hx : Ext σ σz) (hpt : p ∈ σz.tr) (hqq : σz.qh = qq) (hKi : K.length ≤ i) (hlt : i < W.length) :
    InRel n m len cl0 B T w sb σ qq p W gb cap (W.length - (i + 1)) (.slice (some ⟨gb, 0, none⟩) K.length cap) (.int .i64 ((i : Int) + 1)) wz :=
  ⟨i + 1, K, f, σz, Tz, rfl, by omega, by omega, by simp, rfl, hR, hG, hTg, hrow, hfK, fun j h1 h2 => hfW j (by omega) h2, hb, hw, hwt, hx, hpt, hqq⟩

theorem news_ok {wz : World} {gb cap i : Nat} {W K : List Int} {ci : Nat} {f f1 : Nat → Value} (hrow : wz.rowIs gb 21 cap f1) (hf1 : ∀ j, f1 j = if K.length ≤ j ∧ j < K.length + 1 then (.int .i32 (ci : Int)) else f j)
    (hfW : ∀ j, i ≤ j → j < W.length → W[j]?.map (Value.int .i32) = some (f j)) (hKi : K.length ≤ i) (hlc : W.length ≤ cap) {ao : Option Addr} (hao : ¬ cap = i + 1 → ao = some ⟨gb, i + 1, none⟩) : ∀ ad, ao = some ad → ∀ j u, ((W.drop (i + 1)).map (Value.int .i32))[j]? = some u → wz.cell? (ad.add j) = some u := by
  intro ad had j u hu
  have hj : j < W.length - (i + 1) := by
    have := (List.getElem?_eq_some_iff.1 hu).1
    simpa using this
  rw [hao (by omega)] at had
  obtain rfl := Option.some.inj had
  rw [Addr.add_lit, hrow.cell (by omega), hf1, if_neg (by omega), ← hfW _ (by omega) (by omega), ← hu, List.getElem?_map, List.getElem?_drop]

/-- the list as it was, laid together again -/
theorem conf_ok {n m B sb : Nat} {len : Nat → Nat} {T Tq : Nat → Nat} {w wz : World} {σ1 : St} {L : Lay} {p : Int} {W K : List Int} {gb cap i ci : Nat} {f f1 : Nat → Value}
    (hL : RepL n m len B (some p.toNat) Tq wz sb σ1 L) (hG : Grew T Tq w wz) (hgb : w.heap.size ≤ gb ∨ T gb ≠ 0) (hTg : Tq gb = 0) (hrow : wz.rowIs gb 21 cap f1)
    (hf1 : ∀ j, f1 j = if K.length ≤ j ∧ j < K.length + 1 then (.int .i32 (ci : Int)) else f j)
    (hfK : ∀ j, j < K.length → K[j]?.map (Value.int .i32) = some (f j)) (hwt : σ1.wt p.toNat = K ++ (ci : Int) :: W.drop (i + 1)) (hKi : K.length ≤ i) (hlt : i < W.length) (hlc : W.length ≤ cap) (hcm : cap ≤ maxLen) (hBg : B ≤ gb) :
    RepL n m len B (some p.toNat) Tq (wz.setCells gb (K.length + 1) ((W.drop (i + 1)).map (Value.int .i32))) sb σ1 L ∧
    RepL n m len B none (retag Tq (11 + 2 * p.toNat) gb) ((wz.setCells gb (K.length + 1) ((W.drop (i + 1)).map (Value.int .i32))).setCell ⟨L.wb, p.toNat, none⟩ (.slice (some ⟨gb, 0, none⟩) (K.length + 1 + (W.length - (i + 1))) cap)) sb σ1
      { L with wv := up L.wv p.toNat (.slice (some ⟨gb, 0, none⟩) (K.length + 1 + (W.length - (i + 1))) cap) } ∧
    Grew T (retag Tq (11 + 2 * p.toNat) gb) w ((wz.setCells gb (K.length + 1) ((W.drop (i + 1)).map (Value.int .i32))).setCell ⟨L.wb, p.toNat, none⟩ (.slice (some ⟨gb, 0, none⟩) (K.length + 1 + (W.length - (i + 1))) cap)) := by
  have hL1 : RepL n m len B (some p.toNat) Tq (wz.setCells gb (K.length + 1) ((W.drop (i + 1)).map (Value.int .i32))) sb σ1 L :=
    hL.frame (by rw [size_setCells']; exact Nat.le_refl _) fun b _ h0 => heap_setCells_ne gb _ _ _ b (by rintro rfl; exact h0 hTg)
  have hr := rowIs_setCells ((W.drop (i + 1)).map (Value.int .i32)) (K.length + 1) hrow
  have hlen : (K ++ (ci : Int) :: W.drop (i + 1)).length = K.length + 1 + (W.length - (i + 1)) := by simp; omega
  have own := own_of_rowIs (B := B) (len := K.length + 1 + (W.length - (i + 1))) (xs := (K ++ (ci : Int) :: W.drop (i + 1)).map (Value.int .i32)) hr (by rw [List.length_map, hlen]) (by omega) hcm hBg (fun j hj => by
    simp only [List.length_map, List.length_drop]
    rw [List.getElem?_map]
    by_cases h1 : j < K.length
    · rw [if_neg (by omega), hf1, if_neg (by omega), List.getElem?_append_left h1]
      exact hfK j h1
    · by_cases h2 : j = K.length
      · subst h2
        rw [if_neg (by omega), hf1, if_pos (by omega)]
        simp
      · rw [if_pos (by omega), List.getElem?_append_right (by omega), show j - K.length = (j - (K.length + 1)) + 1 by omega, List.getElem?_cons_succ]
        have hd : j - (K.length + 1) < (W.drop (i + 1)).length := by simp; omega
        have hd2 : i + 1 + (j - (K.length + 1)) < W.length := by simp at hd; omega
        simp [List.getD, List.getElem?_eq_getElem hd2])
  have h2 := (hL1.setW gb (K.length + 1 + (W.length - (i + 1))) cap (K ++ (ci : Int) :: W.drop (i + 1)) (by rw [hlen]; exact own) hTg).cast (σ' := σ1) (by
    have e : up σ1.wt p.toNat (K ++ (ci : Int) :: W.drop (i + 1)) = σ1.wt := by
      rw [← hwt]
      funext j
      simp only [up]
      split
      · rename_i e; rw [e]
      · rfl
    rw [e])
  exact ⟨hL1, h2, (((hG.set hgb _ _).trans (grew_setCell (by show Tq L.wb ≠ 0; rw [hL.tW]; decide))).retag hgb)⟩

theorem up_self {α : Type} (f : Nat → α) (i : Nat) : up f i (f i) = f := by
  funext j
  simp only [up]
  split
  · rename_i e; rw [e]
  · rfl

set_option maxRecDepth 100000 in
set_option maxHeartbeats 2000000 in
theorem propagate_walk {n m B sb : Nat} {len : Nat → Nat} {cl0 : Nat → Nat → Int} {T : Nat → Nat} {w : World} {σ : St} (hf : Form n m len cl0) (h : Rep n m len B none T w sb σ) (hb : Base n m len cl0 σ) (hw : WInv n m σ 0 []) (hB : B ≤ w.heap.size) :
    Calls Try.prog 46 #[.pointer (some ⟨sb, 0, none⟩)] w fun e w' => PropPost n m len cl0 B T w sb σ e w' := by
  go_enter Try.func46, Try.ntmps46
  go_wp2
  go_loopg [3] (n - σ.qh) (fun g t wr => OutRel n m len cl0 B T w sb σ g wr)
  case atStart => exact ⟨σ, T, rfl, h, Grew.refl _ _, hb, hw, Ext.refl _⟩
  case round =>
    clear h hb hw
    obtain ⟨σr, Tr, hgk, hR, hG, hb, hw, hx⟩ := hrel
    obtain ⟨L, hL⟩ := hR
    obtain ⟨ta, tc, htv⟩ := ownsRow_len hL.oT
    have c5 := hL.fS.cell (i := 5) (by decide)
    have c7 := hL.fS.cell (i := 7) (by decide)
    rw [hL.f5, htv] at c5
    rw [hL.f7] at c7
    have Htv := hide htv
    have Hgk := hide hgk
    clear htv hgk
    have hql := hb.qh
    have htl := hb.trlen
    have hn := hf.n1
    by_cases hlt : σr.qh < σr.tr.length
    · have hlt' : (σr.qh : Int) < (σr.tr.length : Int) := by omega
      obtain ⟨p, hp⟩ : ∃ p, σr.tr[σr.qh]? = some p := ⟨_, List.getElem?_eq_getElem hlt⟩
      obtain ⟨tg, tcap, htv2, cp⟩ := oT_cell hL hp
      obtain ⟨rfl, rfl⟩ : ta = some ⟨tg, 0, none⟩ ∧ tc = tcap := by
        have := Htv.out.symm.trans htv2
        simp only [Value.slice.injEq] at this
        exact ⟨this.1, this.2.2⟩
      obtain ⟨hp0, hp1⟩ := hb.trng p (List.mem_of_getElem? hp)
      have Hp := hide hp
      clear htv2 hp
      obtain ⟨hn0, hn1⟩ := ng_bound hp0 hp1
      have cS := hL.fS.frozen 7
      have c1 := hL.fS.cell (i := 1) (by decide)
      rw [hL.f1] at c1
      have cw := hL.rW.cell (i := p.toNat) (by omega)
      have hpl : p < 2147483648 := by omega
      have hne : ¬ sb = L.wb := by intro e; have := hL.tW; rw [← e, hL.tS] at this; cases this
      have hne' : ¬ L.wb = sb := fun e => hne e.symm
      have Hlt := hide hlt
      clear hlt
      go_wp2_with fail
      go_quiet (fail)
      generalize nq = q1
      go_wp2_with fail
      go_quiet (fail)
      generalize nq = q2
      go_upto_region 6 with (first | (go_at_call 41; refine (not_any p hp0 hpl _).mono ?_; rintro e w' ⟨rfl, rfl⟩))
      have hL2 := (hL.heap (w' := wr.drewN (q1 + q2)) rfl).setQ (σr.qh + 1)
      have hG2 : Grew T Tr w ((wr.drewN (q1 + q2)).setCell ⟨sb, 7, none⟩ (.int .i64 ((σr.qh + 1 : Nat) : Int))) := hG.trans ((Grew.drewN Tr wr (q1 + q2)).trans (grew_setCell (by show Tr sb ≠ 0; rw [hL.tS]; decide)))
      obtain ⟨hb2, hw2⟩ := pop_ok hb hw Hp.out
      have hx2 : Ext σ { σr with qh := σr.qh + 1 } := ⟨hx.tr, hx.old, hx.tl⟩
      have hpt : p ∈ σr.tr := List.mem_of_getElem? Hp.out
      have hwn : w.heap.size ≤ wr.heap.size := hG.size
      have hq1 : ((σr.qh + 1 : Nat) : Int) = (σr.qh : Int) + 1 := by omega
      rw [hq1] at hL2 hG2
      clear c5 c7 cp cS c1 cw hG hw hb hx hlt' hq1 hpl
      generalize (wr.drewN (q1 + q2)).setCell ⟨sb, 7, none⟩ (.int .i64 ((σr.qh : Int) + 1)) = w2 at *
      have oW := hL2.oW p.toNat (by omega) (by intro e; cases e)
      have hle : n - (σr.qh + 1) < n - σr.qh := by have := Hlt.out; omega
      rcases oW.2 with ⟨hnil, hlen0⟩ | ⟨gb, cap, cur, hwv, hBg, hheap, hlc, hcm, hcs, htake⟩
      · have hW0 : σr.wt p.toNat = [] := List.eq_nil_of_length_eq_zero hlen0
        have hL3 := hL2.sameW p.toNat
        have hG3 : Grew T Tr w (w2.setCell ⟨L.wb, p.toNat, none⟩ (L.wv p.toNat)) := hG2.trans (grew_setCell (by show Tr L.wb ≠ 0; rw [hL.tW]; decide))
        have c1 := hL2.fS.cell (i := 1) (by decide)
        rw [hL2.f1] at c1
        have cw := hL2.rW.cell (i := p.toNat) (by omega)
        have zw := hL2.rW.frozen p.toNat
        have hnil' : L.wv p.toNat = .slice none 0 0 := hnil
        rw [hnil'] at hL3 hG3
        have hw3 : WInv n m { σr with qh := σr.qh + 1 } 0 [] := by
          rw [hW0] at hw2
          exact { hw2 with inv := fun i hi => ⟨fun hm => ((hw2.inv i hi).1 hm).elim .inl (fun a => by cases a.2), fun hm => ((hw2.inv i hi).2 hm).elim .inl (fun a => by cases a.2)⟩ }
        clear hnil hW0 hlen0 oW
        go_wp2_with fail
        go_loopg [6, 7] 0 (fun g kept iv wr' => kept = .slice none 0 0 ∧ iv = .int .i64 0 ∧ wr' = w2)
        case atStart => exact ⟨rfl, rfl, rfl⟩
        case round =>
          obtain ⟨rfl, rfl, rfl⟩ := hrel
          go_wp2
          go_roundg (n - (σr.qh + 1))
          case measure => rw [Hgk.out]; exact hle
          case rel => exact ⟨_, Tr, rfl, ⟨_, hL3⟩, hG3, hb2, hw3, hx2⟩
      · have hwv' : L.wv p.toNat = .slice (some ⟨gb, 0, none⟩) (σr.wt p.toNat).length cap := hwv
        have hTg : Tr gb = 11 + 2 * p.toNat := hL2.tw p.toNat (by omega) (by intro e; cases e) gb (by show (L.wv p.toNat).ownBlock = some gb; rw [hwv']; rfl)
        have hX := hL2.openX p.toNat
        have hgb : w.heap.size ≤ gb ∨ T gb ≠ 0 := by
          rcases Nat.lt_or_ge gb w.heap.size with h1 | h1
          · refine .inr fun h0 => ?_
            have := (hG2.block gb h1 h0).2
            omega
          · exact .inl h1
        obtain ⟨hrow, hrf⟩ := rowIs_of_own hheap hcs htake hlc
        have hW : ∃ W, W = σr.wt p.toNat := ⟨_, rfl⟩
        obtain ⟨W, hW⟩ := hW
        have hstart : InRel n m len cl0 B T w sb σ (σr.qh + 1) p W gb cap W.length (.slice (some ⟨gb, 0, none⟩) 0 cap) (.int .i64 0) w2 := by
          refine ⟨0, [], _, _, _, rfl, by omega, by simp, rfl, rfl, ⟨_, hX⟩, hG2.untag ?_, ?_, hrow, fun j hj => by simp at hj, fun j _ hj => ?_, hb2, ?_, ?_, hx2, hpt, rfl⟩
          · intro b h0; simp [h0]
          · simp [hTg]
          · have h1 := hrf j (by rw [← hW]; exact hj)
            rw [List.getElem?_map] at h1
            rw [hW, h1]
          · rw [hW]; exact hw2
          · rw [hW]; rfl
        have hlc' : W.length ≤ cap := by rw [hW]; exact hlc
        rw [← hW] at hwv'
        have hWlen : W.length ≤ m := by rw [hW]; exact hw2.wlen (by omega)
        have hm := hf.m1
        clear hX hL2 hG2 hb2 hw2 hx2 hpt hwn oW hwv hheap hcs htake hlc hrow hrf hL hTg hne hne'
        have HW := hide hW
        clear hW
        rw [hwv']
        clear hwv'
        go_wp2_with fail
        go_loopg [6, 7] W.length (fun g kept iv wr' => InRel n m len cl0 B T w sb σ (σr.qh + 1) p W gb cap g kept iv wr')
        case atStart => exact hstart
        case round =>
          clear hstart
          obtain ⟨i, K, f, σq, Tq, hg, hiW, hKi, rfl, rfl, ⟨L', hL'⟩, hGq, hTg, hrow, hfK, hfW, hbq, hwq, hwtq, hxq, hptq, hqq⟩ := hrel
          have Hg := hide hg
          have Hwt := hide hwtq
          have Hqq := hide hqq
          clear hg hwtq hqq
          by_cases hlt : i < W.length
          · obtain ⟨c, hc⟩ : ∃ c, W[i]? = some c := ⟨_, List.getElem?_eq_getElem hlt⟩
            have hdr : W.drop i = c :: W.drop (i + 1) := by
              rw [List.drop_eq_getElem_cons hlt]
              rw [List.getElem?_eq_getElem hlt] at hc
              rw [Option.some.inj hc]
            have hcr := hwq.rng p.toNat (by omega) c (by rw [Hwt.out, hdr]; simp)
            obtain ⟨ci, rfl⟩ := Int.eq_ofNat_of_zero_le hcr.1
            have hci : ci < m := by omega
            have hciI : (ci : Int) < (m : Int) := by omega
            have hl2 := hf.l2 ci hci
            have hl3 := hf.l3 ci hci
            have hs1 := hwq.snd p.toNat (by omega) (ci : Int) (by rw [Hwt.out, hdr]; simp)
            have cgb : wr.cell? ⟨gb, i, none⟩ = some (.int .i32 (ci : Int)) := by
              rw [hrow.cell (i := i) (by omega)]
              have := hfW i (Nat.le_refl _) hlt
              rw [hc] at this
              simpa using this.symm
            have c0 := hL'.fS.cell (i := 0) (by decide)
            rw [hL'.f0] at c0
            have ccb := hL'.rC.cell hci
            have d0 := (hL'.rc ci hci).cell (i := 0) (by omega)
            have d1 := (hL'.rc ci hci).cell (i := 1) (by omega)
            have zc := (hL'.rc ci hci).frozen
            have Hdr := hide hdr
            have Hc := hide hc
            have Hs1 := hide hs1
            have HfK := hide hfK
            have HfW := hide hfW
            clear hdr hc hs1 hfK hfW hcr
            go_upto_if 69 with fail
            have hpn : σq.val (ng p) = 2 := hbq.val_of_mem_ng hn0 (by rw [ng_ng hp0]; exact hptq)
            have hgc : ¬ L'.cf ci = gb := by
              intro e
              have := hL'.tc ci hci
              rw [e, hTg] at this
              omega
            go_cut [] (fun wc => MidRel n m len cl0 B T Tq w sb σ σq L' p (W.drop (i + 1)) gb cap f ci wc)
            case first =>
              by_cases hsw : σq.cl ci 0 = ng p
              · have hswb : (σq.cl ci 0 == ng p) = true := by simp [hsw]
                have hLs := ((hL'.setC ci 0 hci (σq.cl ci 1)).setC ci 1 hci (σq.cl ci 0)).cast (σ' := { σq with cl := up σq.cl ci (swap1 (σq.cl ci) 0 1) }) (by simp only [swap1, up_up, up_same])
                have hso := swap_ok hf hbq (R := (ci : Int) :: W.drop (i + 1)) (by rw [← Hdr.out]; exact hwq) hci (by rw [hsw]; omega)
                have hGs : Grew T Tq w ((wr.setCell ⟨L'.cf ci, 0, none⟩ (.int .i32 (σq.cl ci 1))).setCell ⟨L'.cf ci, 1, none⟩ (.int .i32 (σq.cl ci 0))) :=
                  hGq.trans ((grew_setCell (by show Tq (L'.cf ci) ≠ 0; rw [hL'.tc ci hci]; omega)).trans (grew_setCell (by show Tq (L'.cf ci) ≠ 0; rw [hL'.tc ci hci]; omega)))
                have hrs : ((wr.setCell ⟨L'.cf ci, 0, none⟩ (.int .i32 (σq.cl ci 1))).setCell ⟨L'.cf ci, 1, none⟩ (.int .i32 (σq.cl ci 0))).rowIs gb 21 cap f :=
                  (hrow.setOther (by exact fun e => hgc e.symm) _).setOther (by exact fun e => hgc e.symm) _
                have Hsw := hide hsw
                clear hsw
                go_wp2_with fail
                go_region
                go_wp2_with fail
                go_meet
                case rel =>
                  refine ⟨_, hLs.heap rfl, hGs.trans (Grew.drewN Tq _ 1), hrs, hso.1, hso.2, ?_, rfl, hxq.same rfl rfl rfl rfl, rfl, rfl⟩
                  show up σq.cl ci (swap1 (σq.cl ci) 0 1) ci 1 = ng p
                  rw [up_same, swap1_eq]
                  exact Hsw.out
              · have hswb : (σq.cl ci 0 == ng p) = false := by simp [hsw]
                go_wp2_with fail
                go_meet
                case rel =>
                  exact ⟨σq, hL', hGq, hrow, hbq, by rw [← Hdr.out]; exact hwq, (Hs1.out.resolve_left (by simpa [show ((p.toNat : Nat) : Int) = p by omega] using hsw)).trans (by rw [show ((p.toNat : Nat) : Int) = p by omega]), rfl, hxq, rfl, rfl⟩
            case rest =>
              obtain ⟨σ1, hL1, hG1, hrow1, hb1, hw1, h1p, h1wt, hx1, h1tr, h1qh⟩ := hcut
              have H1 := hide (And.intro h1p (And.intro h1wt (And.intro h1tr h1qh)))
              clear h1p h1wt h1tr h1qh hL' hGq hrow hbq hwq hxq cgb c0 ccb d0 d1 zc hpn
              have d0 : wc.cell? ⟨L'.cf ci, 0, none⟩ = some (.int .i32 (σ1.cl ci 0)) := (hL1.rc ci hci).cell (by omega)
              have r0 := hb1.cls.rng hf hci (k := 0) (by omega)
              have hR1 : Rep n m len B (some p.toNat) Tq wc sb σ1 := ⟨L', hL1⟩
              obtain ⟨i0, hi0, hz0, hz1, hz2⟩ := info_parts info21
              have hKc : K.length + 1 ≤ cap := by omega
              by_cases hA : σ1.val (σ1.cl ci 0) = 1
              · have hAb : (σ1.val (σ1.cl ci 0) == 1) = true := by simp [hA]
                have HA := hide hA
                clear hA
                go_wp2_with (first | (go_at_call 43; refine (litValue_val hR1 _ r0.1 r0.2 hn hb1.av).mono ?_; rintro e w' ⟨rfl, q', rfl⟩) | (at_builtin; go_loud (refine wpList_append_room _ rfl _ _ 23 rfl 21 i0 Try.underlying23 hi0 hz1 gb K.length cap (by rfl) (by exact hrow1.alloc _) ⟨wc.heap.size, 0, none⟩ 1 1 [.int .i32 (ci : Int)] (by rfl) rfl (World.news_of_block (heap_alloc_new wc _)) (by simp [Value.oneCell']) hKc ?_)))
                go_roundg (W.length - (i + 1))
                case measure => rw [Hg.out]; omega
                case rel =>
                  obtain ⟨hLz, hGz, hrz⟩ := app_ok (hL1.heap (w' := wc.drewN q') rfl) (hG1.trans (Grew.drewN Tq wc q')) hgb hTg hrow1 (.cells #[.int .i32 (ci : Int)] 21) K.length [.int .i32 (ci : Int)]
                  obtain ⟨_, e2, e3, e4⟩ := H1.out
                  exact inrel_next (f := f) ⟨_, hLz⟩ hGz hTg hrz (fun j => one_at _ _ _ j) HfK.out HfW.out hb1 (keep_ok hf hb1 hci hw1 HA.out) (by rw [e2, Hwt.out, Hdr.out]) hx1 (by rw [e3]; exact hptq) (by rw [e4, Hqq.out]) hKi hlt
              · have hAb : (σ1.val (σ1.cl ci 0) == 1) = false := by simp [hA]
                have HA := hide hA
                clear hA
                go_wp2_with (first | (go_at_call 43; refine (litValue_val hR1 _ r0.1 r0.2 hn hb1.av).mono ?_; rintro e w' ⟨rfl, q', rfl⟩))
                have hLd := hL1.heap (w' := wc.drewN q') rfl
                have hGd := hG1.trans (Grew.drewN Tq wc q')
                have hrd : (wc.drewN q').rowIs gb 21 cap f := hrow1
                have hBd : B ≤ (wc.drewN q').heap.size := Nat.le_trans hB hGd.size
                have hxx : ∀ k, 2 ≤ k → k < len ci → σ1.val (σ1.cl ci k) ≠ 2 → some p.toNat ≠ some (ng (σ1.cl ci k)).toNat := fun k h2 hk _ e => by
                  have rk := hb1.cls.rng hf hci hk
                  have bk := ng_bound rk.1 rk.2
                  have e1 := Option.some.inj e
                  have e2 : ng (σ1.cl ci k) = p := by omega
                  have e3 : σ1.cl ci 1 = σ1.cl ci k := by rw [H1.out.1, ← e2, ng_ng rk.1]
                  have := hb1.cls.inj ci hci 1 k (by omega) hk (by rw [e3])
                  omega
                have hwx : ∀ l, l < 2 * n → (σ1.wt l).length ≤ 1048576 := fun l hl => by have := hw1.wlen hl; omega
                clear hL1 hG1 hrow1 hR1 d0
                generalize wc.drewN q' = wd at *
                refine (rewatch_walk hLd ci hci hm hn hl3 (fun k hk => hb1.cls.rng hf hci hk) hb1.av hl2 hxx hwx hBd).mono ?_
                intro e w' hpost
                clear hxx hwx
                rcases hpost with ⟨rfl, ⟨q3, rfl⟩, hall⟩ | ⟨rfl, k, T', hk2, hk, hkv, hR', hG'⟩
                · have HL := hide hall
                  clear hall
                  have hLe := hLd.heap (w' := wd.drewN q3) rfl
                  have hGe := hGd.trans (Grew.drewN Tq wd q3)
                  have hre : (wd.drewN q3).rowIs gb 21 cap f := hrd
                  have hBe : B ≤ (wd.drewN q3).heap.size := hBd
                  clear hLd hGd hrd hBd
                  generalize wd.drewN q3 = we at *
                  obtain ⟨hLz, hGz, hrz⟩ := app_ok hLe hGe hgb hTg hre (.cells #[.int .i32 (ci : Int)] 21) K.length [.int .i32 (ci : Int)]
                  have hBz : B ≤ ((we.alloc (.cells #[.int .i32 (ci : Int)] 21)).setCells gb K.length [.int .i32 (ci : Int)]).heap.size := Nat.le_trans hB hGz.size
                  have hRz : Rep n m len B (some p.toNat) Tq ((we.alloc (.cells #[.int .i32 (ci : Int)] 21)).setCells gb K.length [.int .i32 (ci : Int)]) sb σ1 := ⟨L', hLz⟩
                  have d0 := (hLz.rc ci hci).cell (i := 0) (by omega)
                  have Hrz := hide hrz
                  have hval := lval_rng hb1.av (σ1.cl ci 0)
                  rw [← val_eq] at hval
                  by_cases hC : σ1.val (σ1.cl ci 0) = 2
                  · have hCb : (σ1.val (σ1.cl ci 0) == 2) = true := by simp [hC]
                    have HC := hide hC
                    clear hC hval
                    go_upto_region 19 with (first | (go_at_call 43; refine (litValue_val hRz _ r0.1 r0.2 hn hb1.av).mono ?_; rintro e w' ⟨rfl, q', rfl⟩) | (at_builtin; refine wpList_append_room _ rfl (.tmp 94) (.tmp 96) 23 rfl 21 i0 Try.underlying23 hi0 hz1 gb K.length cap (by rfl) (by exact hre.alloc _) ⟨we.heap.size, 0, none⟩ 1 1 [.int .i32 (ci : Int)] (by rfl) rfl (World.news_of_block (heap_alloc_new we _)) (by simp [Value.oneCell']) hKc ?_))
                    have hLy := hLz.heap (w' := ((we.alloc (.cells #[.int .i32 (ci : Int)] 21)).setCells gb K.length [.int .i32 (ci : Int)]).drewN q') rfl
                    have hGy := hGz.trans (Grew.drewN Tq _ q')
                    have hry : (((we.alloc (.cells #[.int .i32 (ci : Int)] 21)).setCells gb K.length [.int .i32 (ci : Int)]).drewN q').rowIs gb 21 cap _ := Hrz.out
                    clear hLz hGz hrz hRz hBz d0 hre hLe hGe Hrz
                    generalize ((we.alloc (.cells #[.int .i32 (ci : Int)] 21)).setCells gb K.length [.int .i32 (ci : Int)]).drewN q' = wy at *
                    obtain ⟨hLx, hLf, hGf⟩ := conf_ok hLy hGy hgb hTg hry (fun j => one_at _ _ _ j) HfK.out (show σ1.wt p.toNat = _ by rw [H1.out.2.1, Hwt.out, Hdr.out]) hKi hlt hlc' hcm hBg
                    have hone := ints_oneCell .i32 (W.drop (i + 1))
                    have hnews : ∀ ao : Option Addr, (¬ cap = i + 1 → ao = some ⟨gb, i + 1, none⟩) → ∀ ad, ao = some ad → ∀ j u, ((W.drop (i + 1)).map (Value.int .i32))[j]? = some u → wy.cell? (ad.add j) = some u := fun ao hao => news_ok (i := i) (W := W) hry (fun j => one_at _ _ _ j) HfW.out hKi hlc' hao
                    have hnl : ((W.drop (i + 1)).map (Value.int .i32)).length = W.length - (i + 1) := by simp
                    have c1 := hLx.fS.cell (i := 1) (by decide)
                    rw [hLx.f1] at c1
                    have cw := hLx.rW.cell (i := p.toNat) (by omega)
                    have zw := hLx.rW.frozen p.toNat
                    generalize (W.drop (i + 1)).map (Value.int .i32) = nw at *
                    have Hn := hide hnews
                    have Hnl := hide hnl
                    have Hone := hide hone
                    clear hnews hnl hone
                    go_wp2_with (at_builtin; refine wpList_append_room_any _ rfl (.tmp 104) (.tmp 108) 23 rfl 21 i0 Try.underlying23 hi0 hz1 gb (K.length + 1) cap (by rfl) (by exact hry) _ (W.length - (i + 1)) _ nw (by rfl) Hnl.out (by split <;> (intro h; cases h)) (Hn.out _ (by intro h; first | rfl | simp [h])) Hone.out (by omega) ?_)
                    all_goals
                      first
                        | (have hcp : cap = i + 1 := by assumption
                           subst hcp)
                        | skip
                      go_ret
                      obtain ⟨e1, e2, e3, e4⟩ := H1.out
                      refine ⟨(ci : Int), σ1, _, rfl, ⟨_, hLf⟩, hGf, hb1, hx1, .inr ⟨by omega, hciI, fun k hk => ?_⟩⟩
                      simp only [Int.toNat_natCast] at hk ⊢
                      by_cases k0 : k = 0
                      · subst k0; exact HC.out
                      · by_cases k1 : k = 1
                        · subst k1
                          have rr := hb1.cls.rng hf hci (k := 1) (by omega)
                          exact hb1.val_of_mem_ng rr.1 (by rw [e1, ng_ng hp0, e3]; exact hptq)
                        · exact HL.out k (by omega) hk
                  · have hCb : (σ1.val (σ1.cl ci 0) == 2) = false := by simp [hC]
                    have hC0 : σ1.val (σ1.cl ci 0) = 0 := by have := HA.out; omega
                    have HC := hide hC0
                    clear hC hC0 hval
                    go_wp2_with (first | (go_at_call 43; refine (litValue_val hRz _ r0.1 r0.2 hn hb1.av).mono ?_; rintro e w' ⟨rfl, q', rfl⟩) | (at_builtin; refine wpList_append_room _ rfl (.tmp 94) (.tmp 96) 23 rfl 21 i0 Try.underlying23 hi0 hz1 gb K.length cap (by rfl) (by exact hre.alloc _) ⟨we.heap.size, 0, none⟩ 1 1 [.int .i32 (ci : Int)] (by rfl) rfl (World.news_of_block (heap_alloc_new we _)) (by simp [Value.oneCell']) hKc ?_))
                    have hRy := hRz.heap (w' := ((we.alloc (.cells #[.int .i32 (ci : Int)] 21)).setCells gb K.length [.int .i32 (ci : Int)]).drewN q') rfl
                    have hGy := hGz.trans (Grew.drewN Tq _ q')
                    have hry : (((we.alloc (.cells #[.int .i32 (ci : Int)] 21)).setCells gb K.length [.int .i32 (ci : Int)]).drewN q').rowIs gb 21 cap _ := Hrz.out
                    have hBy : B ≤ (((we.alloc (.cells #[.int .i32 (ci : Int)] 21)).setCells gb K.length [.int .i32 (ci : Int)]).drewN q').heap.size := hBz
                    clear hLz hGz hrz hRz hBz d0 hre hLe hGe Hrz
                    generalize ((we.alloc (.cells #[.int .i32 (ci : Int)] 21)).setCells gb K.length [.int .i32 (ci : Int)]).drewN q' = wy at *
                    refine (assign_rep hRy (σ1.cl ci 0) (ci : Int) r0.1 r0.2 hn (by have := hb1.trlen; omega) (by have := hb1.tllen; omega) hBy).mono ?_
                    rintro e w' ⟨rfl, T', hR', hG'⟩
                    go_wp2
                    go_roundg (W.length - (i + 1))
                    case measure => rw [Hg.out]; omega
                    case rel =>
                      obtain ⟨e1, e2, e3, e4⟩ := H1.out
                      obtain ⟨g1, g2⟩ := hG'.block gb hry.lt hTg
                      obtain ⟨u1, u2, u3⟩ := unit_ok hf hb1 hci hw1 HC.out (fun j h1 h2 => by
                        by_cases j1 : j = 1
                        · subst j1
                          have rr := hb1.cls.rng hf hci (k := 1) (by omega)
                          exact hb1.val_of_mem_ng rr.1 (by rw [e1, ng_ng hp0, e3]; exact hptq)
                        · exact HL.out j (by omega) h2)
                      exact inrel_next (f := f) hR' (hGy.trans hG') g2 (hry.of_block g1) (fun j => one_at _ _ _ j) HfK.out HfW.out u1 u2 (by show σ1.wt p.toNat = _; rw [e2, Hwt.out, Hdr.out]) (hx1.trans hb1 u3) (by show p ∈ σ1.tr ++ _; rw [e3]; exact List.mem_append_left _ hptq) (by show σ1.qh = _; rw [e4, Hqq.out]) hKi hlt
                · have Hkv := hide hkv
                  clear hkv
                  go_wp2
                  go_roundg (W.length - (i + 1))
                  case measure => rw [Hg.out]; omega
                  case rel =>
                    obtain ⟨e1, e2, e3, e4⟩ := H1.out
                    obtain ⟨Lz, hLz⟩ := hR'
                    have hgbs := hrd.lt
                    obtain ⟨g1, g2⟩ := hG'.block gb hgbs hTg
                    obtain ⟨r1, r2, r3⟩ := rewatch_ok hf hb1 hci hw1 (K := K) (by rw [e2, Hwt.out, Hdr.out]) hp0 hp1 (by rw [e3]; exact hptq) e1 HA.out hk2 hk Hkv.out
                    exact inrel_drop (f := f) ⟨Lz, hLz.ghost (K ++ W.drop (i + 1))⟩ (hGd.trans hG') g2 (hrd.of_block g1) HfK.out HfW.out r2 r3 (up_same _ _ _) (hx1.same rfl rfl rfl rfl) (by show p ∈ σ1.tr; rw [e3]; exact hptq) (by show σ1.qh = _; rw [e4, Hqq.out]) hKi hlt
          · have hdrop : W.drop i = [] := List.drop_eq_nil_of_le (by omega)
            have own := own_of_rowIs (B := B) (len := K.length) (xs := K.map (Value.int .i32)) hrow (by simp) (by omega) hcm hBg (fun j hj => by rw [List.getElem?_map]; exact hfK j hj)
            have hwK : σq.wt p.toNat = K := by rw [Hwt.out, hdrop, List.append_nil]
            have hL4 := (hL'.setW gb K.length cap K (by simpa using own) hTg).cast (σ' := σq) (by have e : up σq.wt p.toNat K = σq.wt := (by rw [← hwK]; exact up_self _ _); rw [e])
            have hG4 : Grew T (retag Tq (11 + 2 * p.toNat) gb) w (wr.setCell ⟨L'.wb, p.toNat, none⟩ (.slice (some ⟨gb, 0, none⟩) K.length cap)) :=
              (hGq.trans (grew_setCell (by show Tq L'.wb ≠ 0; rw [hL'.tW]; decide))).retag hgb
            have c1 := hL'.fS.cell (i := 1) (by decide)
            rw [hL'.f1] at c1
            have cw := hL'.rW.cell (i := p.toNat) (by omega)
            have zw := hL'.rW.frozen p.toNat
            have hw3 : WInv n m σq 0 [] := by
              rw [hdrop] at hwq
              exact { hwq with inv := fun i hi => ⟨fun hm => ((hwq.inv i hi).1 hm).elim .inl (fun a => by cases a.2), fun hm => ((hwq.inv i hi).2 hm).elim .inl (fun a => by cases a.2)⟩ }
            clear hdrop hwK own
            go_wp2
            go_roundg (n - (σr.qh + 1))
            case measure => rw [Hgk.out]; exact hle
            case rel => exact ⟨σq, _, by rw [Hqq.out], ⟨_, hL4⟩, hG4, hbq, hw3, hxq⟩
    · go_wp2_with fail
      go_quiet (fail)
      go_wp2
      go_ret
      exact ⟨-1, σr, Tr, rfl, ⟨L, hL.heap rfl⟩, hG.trans (Grew.drewN Tr _ _), hb, hx, .inl ⟨rfl, hw, by omega⟩⟩
end Go.Proofs.Qxb6600345a

import Derived.Test.Qxb6600345aC
namespace Go.Proofs.Qxb6600345a
open Go.RowKit
set_option linter.unusedVariables false
set_option linter.unusedSimpArgs false

def St.assign (σ : St) (l frm : Int) : St := { σ with av := up σ.av (vr l) (1 + l % 2), lv := up σ.lv (vr l) σ.tl.length, rs := up σ.rs (vr l) frm, tr := σ.tr ++ [l] }

theorem up_up {α : Type} (f : Nat → α) (i : Nat) (u v : α) : up (up f i u) i v = up f i v := by
  funext j
  simp only [up]
  split <;> rfl

theorem info33 : (Try.prog.info? 33).map (fun i => (i.zero, i.size, i.bytes)) = some (some (.int .i32 0), 1, 4) := by kernel_rfl
theorem info21 : (Try.prog.info? 21).map (fun i => (i.zero, i.size, i.bytes)) = some (some (.int .i32 0), 1, 4) := by kernel_rfl
theorem info3 : (Try.prog.info? 3).map (fun i => (i.zero, i.size, i.bytes)) = some (some (.int .i64 0), 1, 8) := by kernel_rfl

theorem RepL.to {n m B sb : Nat} {len : Nat → Nat} {x : Option Nat} {T : Nat → Nat} {w : World} {σ σ' : St} {L : Lay} (h : RepL n m len B x T w sb σ L) (e : σ = σ') : Rep n m len B x T w sb σ' := e ▸ ⟨L, h⟩

theorem grew_setCell {T : Nat → Nat} {w : World} {a : Addr} {v : Value} (ha : T a.block ≠ 0) : Grew T T w (w.setCell a v) :=
  ⟨rfl, rfl, rfl, by simp [World.setCell], fun b _ hb => ⟨Below.heap_setCell _ _ _ _ (by rintro rfl; exact ha hb), hb⟩⟩

theorem ownsRow_len {w : World} {B e sz n : Nat} {v : Value} {xs : List Value} (h : w.ownsRow B e sz v n xs) : ∃ a c, v = .slice a n c := by
  rcases h.2 with ⟨rfl, rfl⟩ | ⟨g, cap, cur, rfl, _⟩
  · exact ⟨_, _, rfl⟩
  · exact ⟨_, _, rfl⟩

set_option maxHeartbeats 800000 in
theorem assign_even {n m B sb : Nat} {len : Nat → Nat} {x : Option Nat} {T : Nat → Nat} {w : World} {σ : St} {L : Lay} (h : RepL n m len B x T w sb σ L) (l frm : Int) (hl : 0 ≤ l) (hl2 : l < 2 * (n : Int)) (hn : n ≤ 4096)
    (htr : σ.tr.length ≤ 4096) (htl : σ.tl.length ≤ 4096) (hB : B ≤ w.heap.size) (hev : l % 2 = 0) :
    Calls Try.prog 45 #[.pointer (some ⟨sb, 0, none⟩), .int .i32 l, .int .i32 frm] w fun e w' => e = .returned (.tuple #[]) ∧ ∃ T', Rep n m len B x T' w' sb (σ.assign l frm) ∧ Grew T T' w w' := by
  have hb : bits BinOp.and IntKind.i32 l 1 = l % 2 := bits_and_one l hl (by omega)
  have hbe : (l % 2 == 1) = false := by simp; omega
  have hv : vr l < n := by unfold vr; omega
  have hi1 : (0 : Int) ≤ l / 2 := by omega
  have hi2 : l / 2 < (n : Int) := by omega
  have c2 := h.fS.cell (i := 2) (by decide)
  have c3 := h.fS.cell (i := 3) (by decide)
  have c4 := h.fS.cell (i := 4) (by decide)
  have c5 := h.fS.cell (i := 5) (by decide)
  have c6 := h.fS.cell (i := 6) (by decide)
  rw [h.f2] at c2
  rw [h.f3] at c3
  rw [h.f4] at c4
  rw [h.f5] at c5
  rw [h.f6] at c6
  have cA : w.cell? ⟨L.ab, (l / 2).toNat, none⟩ = some (.int .i8 (σ.av (vr l))) := h.rA.cell hv
  have cL : w.cell? ⟨L.lb, (l / 2).toNat, none⟩ = some (.int .i32 (σ.lv (vr l))) := h.rL.cell hv
  have cR : w.cell? ⟨L.rb, (l / 2).toNat, none⟩ = some (.int .i32 (σ.rs (vr l))) := h.rR.cell hv
  have zA := h.rA.frozen (l / 2).toNat
  have zL := h.rL.frozen (l / 2).toNat
  have zR := h.rR.frozen (l / 2).toNat
  have zS := h.fS.frozen 5
  go_enter Try.func45, Try.ntmps45
  go_wp2_with (first | (go_at_call 25; refine (var_any _ _).mono ?_; rintro e w' ⟨rfl, rfl⟩))
  have h1 := h.setA (vr l) 1
  have hvr : vr l = (l / 2).toNat := rfl
  rw [hvr] at h1
  have G1 : Grew T T w' (w'.setCell ⟨L.ab, (l / 2).toNat, none⟩ (.int .i8 1)) := grew_setCell (by rw [h.tA]; decide)
  clear c2 c3 c4 c5 c6 cA cL cR zA zL zR zS
  generalize hw1 : w'.setCell ⟨L.ab, (l / 2).toNat, none⟩ (.int .i8 1) = w1 at *
  clear hw1
  have c3 := h1.fS.cell (i := 3) (by decide)
  have c6 := h1.fS.cell (i := 6) (by decide)
  rw [h1.f3] at c3
  rw [h1.f6] at c6
  have cL : w1.cell? ⟨L.lb, (l / 2).toNat, none⟩ = some (.int .i32 (σ.lv (vr l))) := h1.rL.cell hv
  have zL := h1.rL.frozen (l / 2).toNat
  have hne : ¬ sb = L.lb := by intro e; have := h.tL; rw [← e, h.tS] at this; cases this
  have hne' : ¬ L.lb = sb := fun e => hne e.symm
  have hwr : IntKind.i32.wrap (σ.tl.length : Int) = (σ.tl.length : Int) := wraps_i32 _ (by omega) (by omega)
  have tlv := ownsRow_len h1.oL
  obtain ⟨la, lc, hlv⟩ := tlv
  rw [hlv] at c6
  go_region_held3 (fun w' => w'.cell? ⟨sb, 3, none⟩ = some (.slice (some ⟨L.lb, 0, none⟩) n n) ∧ w'.cell? ⟨sb, 6, none⟩ = some (.slice la σ.tl.length lc)) (go_keep)
    (first | (go_at_call 47; refine (dl_any sb _ la σ.tl.length lc ?_).mono ?_; (simp [*]); rintro e w' ⟨rfl, rfl⟩))
  have h2 := (h1.setL (vr l) σ.tl.length).heap (w' := (w1.setCell ⟨L.lb, (l / 2).toNat, none⟩ (.int .i32 (σ.tl.length : Int))).drew) rfl
  rw [hvr] at h2
  have G2 : Grew T T w1 (w1.setCell ⟨L.lb, (l / 2).toNat, none⟩ (.int .i32 (σ.tl.length : Int))).drew := (grew_setCell (T := T) (by show T L.lb ≠ 0; rw [h.tL]; decide)).trans (Grew.drewN T _ 1)
  clear c3 c6 cL zL hwr hne hne'
  generalize hw2 : (w1.setCell ⟨L.lb, (l / 2).toNat, none⟩ (.int .i32 (σ.tl.length : Int))).drew = w2 at *
  clear hw2 hlv
  have c4 := h2.fS.cell (i := 4) (by decide)
  rw [h2.f4] at c4
  have cR : w2.cell? ⟨L.rb, (l / 2).toNat, none⟩ = some (.int .i32 (σ.rs (vr l))) := h2.rR.cell hv
  have zR := h2.rR.frozen (l / 2).toNat
  go_upto_region 6 with fail
  have h3 := h2.setR (vr l) frm
  rw [hvr] at h3
  have G3 : Grew T T w2 (w2.setCell ⟨L.rb, (l / 2).toNat, none⟩ (.int .i32 frm)) := grew_setCell (by show T L.rb ≠ 0; rw [h.tR]; decide)
  have hB2 : B ≤ (w2.setCell ⟨L.rb, (l / 2).toNat, none⟩ (.int .i32 frm)).heap.size := by have a1 := G1.size; have a2 := G2.size; have a3 := G3.size; omega
  clear c4 cR zR
  generalize hw3 : w2.setCell ⟨L.rb, (l / 2).toNat, none⟩ (.int .i32 frm) = w3 at *
  clear hw3
  have c5 := h3.fS.cell (i := 5) (by decide)
  rw [h3.f5] at c5
  have h4 := h3.alloc (.cells #[.int .i32 l] 33)
  have oT := h4.oT
  obtain ⟨ta, tc, htv⟩ := ownsRow_len oT
  obtain ⟨i0, hi, hz0, hz1, hz2⟩ := info_parts info33
  have c5' : w3.cell? ⟨sb, 5, none⟩ = some (.slice ta σ.tr.length tc) := by rw [c5, htv]
  clear c5
  go_wp2_with (at_builtin; go_loud (refine wpList_append_lies _ rfl _ _ 53 rfl B 33 i0 (.int .i32 0) 1 4 Try.underlying53 hi hz0 hz1 hz2 rfl (by decide) L.tv σ.tr.length (σ.tr.map (Value.int .i32)) (by rw [htv]; rfl) oT ⟨w3.heap.size, 0, none⟩ 1 1 [.int .i32 l] rfl rfl (World.news_of_block (heap_alloc_new w3 _)) (by simp [Value.oneCell']) (by decide) (by unfold maxLen; omega) (by omega) (by simp; omega) (w3.heap.size + 1) (by simp) ?_))
  intro g cap w4 hown hgrow hat hlt
  rw [← htv] at hgrow hat
  have hblk : w4.heap[sb]? = (w3.alloc (.cells #[.int .i32 l] 33)).heap[sb]? := hgrow.block sb h4.fS.lt (fun e => by have e1 := h4.tT sb e.symm; rw [h4.tS] at e1; cases e1)
  have f4 := h4.fS.of_block hblk
  have c5 := f4.cell (i := 5) (by decide)
  have z5 := f4.frozen 5
  obtain ⟨h5, G5⟩ := h4.pushT l hown hgrow (by simpa using hat) hlt (by simp; omega)
  clear hown hgrow hat htv oT c5' hblk
  go_wp2
  go_end0
  exact ⟨rfl, _, h5.to (by simp only [St.assign, hev, hvr]; rfl), (G1.trans (G2.trans (G3.trans ((Grew.alloc T w3 _).trans G5))))⟩
set_option maxHeartbeats 800000 in
theorem assign_odd {n m B sb : Nat} {len : Nat → Nat} {x : Option Nat} {T : Nat → Nat} {w : World} {σ : St} {L : Lay} (h : RepL n m len B x T w sb σ L) (l frm : Int) (hl : 0 ≤ l) (hl2 : l < 2 * (n : Int)) (hn : n ≤ 4096)
    (htr : σ.tr.length ≤ 4096) (htl : σ.tl.length ≤ 4096) (hB : B ≤ w.heap.size) (hev : l % 2 = 1) :
    Calls Try.prog 45 #[.pointer (some ⟨sb, 0, none⟩), .int .i32 l, .int .i32 frm] w fun e w' => e = .returned (.tuple #[]) ∧ ∃ T', Rep n m len B x T' w' sb (σ.assign l frm) ∧ Grew T T' w w' := by
  have hb : bits BinOp.and IntKind.i32 l 1 = l % 2 := bits_and_one l hl (by omega)
  have hbe : (l % 2 == 1) = true := by simp; omega
  have hv : vr l < n := by unfold vr; omega
  have hi1 : (0 : Int) ≤ l / 2 := by omega
  have hi2 : l / 2 < (n : Int) := by omega
  have c2 := h.fS.cell (i := 2) (by decide)
  have c3 := h.fS.cell (i := 3) (by decide)
  have c4 := h.fS.cell (i := 4) (by decide)
  have c5 := h.fS.cell (i := 5) (by decide)
  have c6 := h.fS.cell (i := 6) (by decide)
  rw [h.f2] at c2
  rw [h.f3] at c3
  rw [h.f4] at c4
  rw [h.f5] at c5
  rw [h.f6] at c6
  have cA : w.cell? ⟨L.ab, (l / 2).toNat, none⟩ = some (.int .i8 (σ.av (vr l))) := h.rA.cell hv
  have cL : w.cell? ⟨L.lb, (l / 2).toNat, none⟩ = some (.int .i32 (σ.lv (vr l))) := h.rL.cell hv
  have cR : w.cell? ⟨L.rb, (l / 2).toNat, none⟩ = some (.int .i32 (σ.rs (vr l))) := h.rR.cell hv
  have zA := h.rA.frozen (l / 2).toNat
  have zL := h.rL.frozen (l / 2).toNat
  have zR := h.rR.frozen (l / 2).toNat
  have zS := h.fS.frozen 5
  have hna : ¬ sb = L.ab := by intro e; have := h.tA; rw [← e, h.tS] at this; cases this
  have hna' : ¬ L.ab = sb := fun e => hna e.symm
  go_enter Try.func45, Try.ntmps45
  go_wp2_with (first | (go_at_call 25; refine (var_any _ _).mono ?_; rintro e w' ⟨rfl, rfl⟩))
  have h1 := (h.setA (vr l) 1).setA (vr l) 2
  have hvr : vr l = (l / 2).toNat := rfl
  rw [hvr] at h1
  have G1 : Grew T T w' ((w'.setCell ⟨L.ab, (l / 2).toNat, none⟩ (.int .i8 1)).setCell ⟨L.ab, (l / 2).toNat, none⟩ (.int .i8 2)) := (grew_setCell (by rw [h.tA]; decide)).trans (grew_setCell (by rw [h.tA]; decide))
  clear c2 c3 c4 c5 c6 cA cL cR zA zL zR zS
  generalize hw1 : (w'.setCell ⟨L.ab, (l / 2).toNat, none⟩ (.int .i8 1)).setCell ⟨L.ab, (l / 2).toNat, none⟩ (.int .i8 2) = w1 at *
  clear hw1
  have c3 := h1.fS.cell (i := 3) (by decide)
  have c6 := h1.fS.cell (i := 6) (by decide)
  rw [h1.f3] at c3
  rw [h1.f6] at c6
  have cL : w1.cell? ⟨L.lb, (l / 2).toNat, none⟩ = some (.int .i32 (σ.lv (vr l))) := h1.rL.cell hv
  have zL := h1.rL.frozen (l / 2).toNat
  have hne : ¬ sb = L.lb := by intro e; have := h.tL; rw [← e, h.tS] at this; cases this
  have hne' : ¬ L.lb = sb := fun e => hne e.symm
  have hwr : IntKind.i32.wrap (σ.tl.length : Int) = (σ.tl.length : Int) := wraps_i32 _ (by omega) (by omega)
  have tlv := ownsRow_len h1.oL
  obtain ⟨la, lc, hlv⟩ := tlv
  rw [hlv] at c6
  go_region_held3 (fun w' => w'.cell? ⟨sb, 3, none⟩ = some (.slice (some ⟨L.lb, 0, none⟩) n n) ∧ w'.cell? ⟨sb, 6, none⟩ = some (.slice la σ.tl.length lc)) (go_keep)
    (first | (go_at_call 47; refine (dl_any sb _ la σ.tl.length lc ?_).mono ?_; (simp [*]); rintro e w' ⟨rfl, rfl⟩))
  have h2 := (h1.setL (vr l) σ.tl.length).heap (w' := (w1.setCell ⟨L.lb, (l / 2).toNat, none⟩ (.int .i32 (σ.tl.length : Int))).drew) rfl
  rw [hvr] at h2
  have G2 : Grew T T w1 (w1.setCell ⟨L.lb, (l / 2).toNat, none⟩ (.int .i32 (σ.tl.length : Int))).drew := (grew_setCell (T := T) (by show T L.lb ≠ 0; rw [h.tL]; decide)).trans (Grew.drewN T _ 1)
  clear c3 c6 cL zL hwr hne hne'
  generalize hw2 : (w1.setCell ⟨L.lb, (l / 2).toNat, none⟩ (.int .i32 (σ.tl.length : Int))).drew = w2 at *
  clear hw2 hlv
  have c4 := h2.fS.cell (i := 4) (by decide)
  rw [h2.f4] at c4
  have cR : w2.cell? ⟨L.rb, (l / 2).toNat, none⟩ = some (.int .i32 (σ.rs (vr l))) := h2.rR.cell hv
  have zR := h2.rR.frozen (l / 2).toNat
  go_upto_region 6 with fail
  have h3 := h2.setR (vr l) frm
  rw [hvr] at h3
  have G3 : Grew T T w2 (w2.setCell ⟨L.rb, (l / 2).toNat, none⟩ (.int .i32 frm)) := grew_setCell (by show T L.rb ≠ 0; rw [h.tR]; decide)
  have hB2 : B ≤ (w2.setCell ⟨L.rb, (l / 2).toNat, none⟩ (.int .i32 frm)).heap.size := by have a1 := G1.size; have a2 := G2.size; have a3 := G3.size; omega
  clear c4 cR zR
  generalize hw3 : w2.setCell ⟨L.rb, (l / 2).toNat, none⟩ (.int .i32 frm) = w3 at *
  clear hw3
  have c5 := h3.fS.cell (i := 5) (by decide)
  rw [h3.f5] at c5
  have h4 := h3.alloc (.cells #[.int .i32 l] 33)
  have oT := h4.oT
  obtain ⟨ta, tc, htv⟩ := ownsRow_len oT
  obtain ⟨i0, hi, hz0, hz1, hz2⟩ := info_parts info33
  have c5' : w3.cell? ⟨sb, 5, none⟩ = some (.slice ta σ.tr.length tc) := by rw [c5, htv]
  clear c5
  go_wp2_with (at_builtin; go_loud (refine wpList_append_lies _ rfl _ _ 53 rfl B 33 i0 (.int .i32 0) 1 4 Try.underlying53 hi hz0 hz1 hz2 rfl (by decide) L.tv σ.tr.length (σ.tr.map (Value.int .i32)) (by rw [htv]; rfl) oT ⟨w3.heap.size, 0, none⟩ 1 1 [.int .i32 l] rfl rfl (World.news_of_block (heap_alloc_new w3 _)) (by simp [Value.oneCell']) (by decide) (by unfold maxLen; omega) (by omega) (by simp; omega) (w3.heap.size + 1) (by simp) ?_))
  intro g cap w4 hown hgrow hat hlt
  rw [← htv] at hgrow hat
  have hblk : w4.heap[sb]? = (w3.alloc (.cells #[.int .i32 l] 33)).heap[sb]? := hgrow.block sb h4.fS.lt (fun e => by have e1 := h4.tT sb e.symm; rw [h4.tS] at e1; cases e1)
  have f4 := h4.fS.of_block hblk
  have c5 := f4.cell (i := 5) (by decide)
  have z5 := f4.frozen 5
  obtain ⟨h5, G5⟩ := h4.pushT l hown hgrow (by simpa using hat) hlt (by simp; omega)
  clear hown hgrow hat htv oT c5' hblk
  go_wp2
  go_end0
  exact ⟨rfl, _, h5.to (by simp only [St.assign, hev, hvr, up_up]; rfl), (G1.trans (G2.trans (G3.trans ((Grew.alloc T w3 _).trans G5))))⟩

/-- 'assign', at the solver's state -/
theorem assign_rep {n m B sb : Nat} {len : Nat → Nat} {x : Option Nat} {T : Nat → Nat} {w : World} {σ : St} (h : Rep n m len B x T w sb σ) (l frm : Int) (hl : 0 ≤ l) (hl2 : l < 2 * (n : Int)) (hn : n ≤ 4096)
    (htr : σ.tr.length ≤ 4096) (htl : σ.tl.length ≤ 4096) (hB : B ≤ w.heap.size) :
    Calls Try.prog 45 #[.pointer (some ⟨sb, 0, none⟩), .int .i32 l, .int .i32 frm] w fun e w' => e = .returned (.tuple #[]) ∧ ∃ T', Rep n m len B x T' w' sb (σ.assign l frm) ∧ Grew T T' w w' := by
  obtain ⟨L, h⟩ := h
  have hp : l % 2 = 0 ∨ l % 2 = 1 := by omega
  rcases hp with hp | hp
  · exact assign_even h l frm hl hl2 hn htr htl hB hp
  · exact assign_odd h l frm hl hl2 hn htr htl hB hp

end Go.Proofs.Qxb6600345a

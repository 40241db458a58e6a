import Derived.Test.Qxb6600345aD
import Derived.Deep.RegionLaw
namespace Go.Proofs.Qxb6600345a
open Go.RowKit
set_option linter.unusedVariables false
set_option linter.unusedSimpArgs false

def St.level (σ : St) : St := { σ with tl := σ.tl ++ [(σ.tr.length : Int)] }

set_option maxHeartbeats 800000 in
theorem newLevel_rep {n m B sb : Nat} {len : Nat → Nat} {x : Option Nat} {T : Nat → Nat} {w : World} {σ : St} (h : Rep n m len B x T w sb σ)
    (htr : σ.tr.length ≤ 4096) (htl : σ.tl.length ≤ 4096) (hB : B ≤ w.heap.size) :
    Calls Try.prog 18 #[.pointer (some ⟨sb, 0, none⟩)] w fun e w' => e = .returned (.tuple #[]) ∧ ∃ T', Rep n m len B x T' w' sb σ.level ∧ Grew T T' w w' := by
  obtain ⟨L, h⟩ := h
  have h0 := h.heap (w' := w.drew) rfl
  have h4 := h0.alloc (.cells #[.int .i64 (σ.tr.length : Int)] 3)
  have c5 := h.fS.cell (i := 5) (by decide)
  have c6 := h.fS.cell (i := 6) (by decide)
  rw [h.f5] at c5
  rw [h.f6] at c6
  have oL := h4.oL
  obtain ⟨ta, tc, htv⟩ := ownsRow_len h.oT
  obtain ⟨la, lc, hlv⟩ := ownsRow_len h.oL
  obtain ⟨i0, hi, hz0, hz1, hz2⟩ := info_parts info3
  have c5' : w.cell? ⟨sb, 5, none⟩ = some (.slice ta σ.tr.length tc) := by rw [c5, htv]
  have c6' : w.cell? ⟨sb, 6, none⟩ = some (.slice la σ.tl.length lc) := by rw [c6, hlv]
  have hsb : sb < w.heap.size := h.fS.lt
  have zS := h.fS.frozen
  have n5 := World.new_ne w _ c5
  have n6 := World.new_ne w _ c6
  have Htv : Hid (L.tv = .slice ta σ.tr.length tc) := htv
  have Hlv : Hid (L.lv = .slice la σ.tl.length lc) := hlv
  have oL' : ((w.alloc (.cells #[.int .i64 (σ.tr.length : Int)] 3)).drew).ownsRow B 3 1 (.slice la σ.tl.length lc) σ.tl.length (σ.tl.map (Value.int .i64)) := by rw [hlv] at oL; exact oL
  have cell6 : ∀ w1 : World, (w.alloc (.cells #[.int .i64 (σ.tr.length : Int)] 3)).drew.grownBy w1 (Value.slice la σ.tl.length lc).ownBlock → w1.cell? ⟨sb, 6, none⟩ = some (.slice la σ.tl.length lc) := fun w1 hg => by
    rw [← hlv] at hg
    have := hg.block sb h4.fS.lt (fun e => by have e1 := h.tM sb e.symm; rw [h.tS] at e1; cases e1)
    rw [World.cell?_of_block (w := w.drew.alloc (.cells #[.int .i64 (σ.tr.length : Int)] 3)) this, h4.fS.cell (i := 6) (by decide), h4.f6, hlv]
  have froz6 : ∀ w1 : World, (w.alloc (.cells #[.int .i64 (σ.tr.length : Int)] 3)).drew.grownBy w1 (Value.slice la σ.tl.length lc).ownBlock → w1.frozen? ⟨sb, 6, none⟩ = false := fun w1 hg => by
    rw [← hlv] at hg
    have := hg.block sb h4.fS.lt (fun e => by have e1 := h.tM sb e.symm; rw [h.tS] at e1; cases e1)
    rw [World.frozen?_of_block (w := w.drew.alloc (.cells #[.int .i64 (σ.tr.length : Int)] 3)) this]
    exact h4.fS.frozen 6
  clear c5 c6 htv hlv oL
  go_enter Try.func18, Try.ntmps18
  go_region_law (refine step_append_lies _ (by rfl) _ _ 42 (by rfl) B 3 i0 (.int .i64 0) 1 8 Try.underlying42 hi hz0 hz1 hz2 rfl (by decide) (.slice la σ.tl.length lc) σ.tl.length (σ.tl.map (Value.int .i64)) (by simp [Act.eval]) (by exact oL') ⟨w.heap.size, 0, none⟩ 1 1 [.int .i64 (σ.tr.length : Int)] (by simp [Act.eval]) rfl (World.news_of_block (heap_alloc_new w.drew _)) (by simp [Value.oneCell']) (by decide) (by unfold maxLen; omega) (by omega) (by simp; omega) (w.heap.size + 1) (by simp) ?_; intro g cap w1 hown1 hgrow hat hlt; have c6n := cell6 w1 hgrow; have z6n := froz6 w1 hgrow)
  all_goals
    rw [← Hlv.out] at hgrow hat
    obtain ⟨h5, G5⟩ := h4.pushM (σ.tr.length : Int) hown1 hgrow (by simpa using hat) hlt (by simp; omega)
    clear hown1 hgrow hat oL' cell6 froz6 c6n z6n
    go_end0
    exact ⟨rfl, _, h5.to rfl, (Grew.drewN T w 1).trans ((Grew.alloc T w.drew _).trans G5)⟩

end Go.Proofs.Qxb6600345a

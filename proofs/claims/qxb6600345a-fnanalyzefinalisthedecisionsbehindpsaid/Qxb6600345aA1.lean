import Derived.Test.Qxb6600345aZ
/-! 'readState', 'inScope'. -/
namespace Go.Proofs.Qxb6600345a
open Go.RowKit
set_option linter.unusedVariables false
set_option linter.unusedSimpArgs false

/-- readState's four rows -/
structure RS (w : World) (b1 b2 b3 b4 tl n : Nat) (f1 f2 f3 f4 : Nat → Int) : Prop where
  r1 : w.rowIs b1 21 tl (fun j => .int .i32 (f1 j))
  r2 : w.rowIs b2 3 n (fun v => .int .i64 (f2 v))
  r3 : w.rowIs b3 21 n (fun v => .int .i32 (f3 v))
  r4 : w.rowIs b4 21 n (fun v => .int .i32 (f4 v))
  d : b1 < b2 ∧ b2 < b3 ∧ b3 < b4

section
variable {w : World} {b1 b2 b3 b4 tl n : Nat} {f1 f2 f3 f4 : Nat → Int}
theorem RS.set1 (h : RS w b1 b2 b3 b4 tl n f1 f2 f3 f4) (v : Nat) (y : Int) : RS (w.setCell ⟨b1, v, none⟩ (.int .i32 y)) b1 b2 b3 b4 tl n (up f1 v y) f2 f3 f4 := by
  have hd := h.d
  exact ⟨(World.rowIs.set (w := w) h.r1 v _).congr (fun j _ => by by_cases e : j = v <;> simp [up, e]), h.r2.of_block (Below.heap_setCell _ _ _ _ (by show b2 ≠ b1; omega)), h.r3.of_block (Below.heap_setCell _ _ _ _ (by show b3 ≠ b1; omega)), h.r4.of_block (Below.heap_setCell _ _ _ _ (by show b4 ≠ b1; omega)), hd⟩
theorem RS.set2 (h : RS w b1 b2 b3 b4 tl n f1 f2 f3 f4) (v : Nat) (y : Int) : RS (w.setCell ⟨b2, v, none⟩ (.int .i64 y)) b1 b2 b3 b4 tl n f1 (up f2 v y) f3 f4 := by
  have hd := h.d
  exact ⟨h.r1.of_block (Below.heap_setCell _ _ _ _ (by show b1 ≠ b2; omega)), (World.rowIs.set (w := w) h.r2 v _).congr (fun j _ => by by_cases e : j = v <;> simp [up, e]), h.r3.of_block (Below.heap_setCell _ _ _ _ (by show b3 ≠ b2; omega)), h.r4.of_block (Below.heap_setCell _ _ _ _ (by show b4 ≠ b2; omega)), hd⟩
theorem RS.set3 (h : RS w b1 b2 b3 b4 tl n f1 f2 f3 f4) (v : Nat) (y : Int) : RS (w.setCell ⟨b3, v, none⟩ (.int .i32 y)) b1 b2 b3 b4 tl n f1 f2 (up f3 v y) f4 := by
  have hd := h.d
  exact ⟨h.r1.of_block (Below.heap_setCell _ _ _ _ (by show b1 ≠ b3; omega)), h.r2.of_block (Below.heap_setCell _ _ _ _ (by show b2 ≠ b3; omega)), (World.rowIs.set (w := w) h.r3 v _).congr (fun j _ => by by_cases e : j = v <;> simp [up, e]), h.r4.of_block (Below.heap_setCell _ _ _ _ (by show b4 ≠ b3; omega)), hd⟩
theorem RS.set4 (h : RS w b1 b2 b3 b4 tl n f1 f2 f3 f4) (v : Nat) (y : Int) : RS (w.setCell ⟨b4, v, none⟩ (.int .i32 y)) b1 b2 b3 b4 tl n f1 f2 f3 (up f4 v y) := by
  have hd := h.d
  exact ⟨h.r1.of_block (Below.heap_setCell _ _ _ _ (by show b1 ≠ b4; omega)), h.r2.of_block (Below.heap_setCell _ _ _ _ (by show b2 ≠ b4; omega)), h.r3.of_block (Below.heap_setCell _ _ _ _ (by show b3 ≠ b4; omega)), (World.rowIs.set (w := w) h.r4 v _).congr (fun j _ => by by_cases e : j = v <;> simp [up, e]), hd⟩
theorem RS.congr {g1 g2 g3 g4 : Nat → Int} (h : RS w b1 b2 b3 b4 tl n f1 f2 f3 f4) (e1 : ∀ j, j < tl → f1 j = g1 j) (e2 : ∀ j, j < n → f2 j = g2 j) (e3 : ∀ j, j < n → f3 j = g3 j) (e4 : ∀ j, j < n → f4 j = g4 j) : RS w b1 b2 b3 b4 tl n g1 g2 g3 g4 :=
  ⟨h.r1.congr (fun j hj => by rw [e1 j hj]), h.r2.congr (fun j hj => by rw [e2 j hj]), h.r3.congr (fun j hj => by rw [e3 j hj]), h.r4.congr (fun j hj => by rw [e4 j hj]), h.d⟩
theorem RS.heap {w' : World} (h : RS w b1 b2 b3 b4 tl n f1 f2 f3 f4) (e : w'.heap = w.heap) : RS w' b1 b2 b3 b4 tl n f1 f2 f3 f4 :=
  ⟨h.r1.of_block (by rw [e]), h.r2.of_block (by rw [e]), h.r3.of_block (by rw [e]), h.r4.of_block (by rw [e]), h.d⟩
end

theorem results_tmp5 {fn : Func} {t u v x y : Tmp} (h : fn.results = #[.tmp t, .tmp u, .tmp v, .tmp x, .tmp y]) (tmps : Array Value) (P : Program) (w : World) :
    (results fn tmps).run P w = .ok (.tuple #[tmps.getD t undef, tmps.getD u undef, tmps.getD v undef, tmps.getD x undef, tmps.getD y undef]) w := by
  simp [results, h]

def RSPost (n : Nat) (w : World) (σ : St) (e : Ending) (w' : World) : Prop :=
  ∃ b1 b2 b3 b4 f1 f2 f3 f4, e = .returned (.tuple #[.slice (some ⟨b1, 0, none⟩) σ.tr.length σ.tr.length, .slice (some ⟨b2, 0, none⟩) n n, .slice (some ⟨b3, 0, none⟩) n n, .slice (some ⟨b4, 0, none⟩) n n, .bool true]) ∧
    RS w' b1 b2 b3 b4 σ.tr.length n f1 f2 f3 f4 ∧ (∀ j t, σ.tr[j]? = some t → f1 j = t) ∧ FillOk σ.tr σ.tr.length σ.lv 0 f3 ∧ FillOk σ.tr σ.tr.length σ.rs (-1) f4 ∧ w.heap.size ≤ b1 ∧ Below w.heap.size w w'

def RSRel (n : Nat) (w : World) (σ : St) (b1 b2 b3 b4 : Nat) (g : Nat) (iv : Value) (wr : World) : Prop :=
  ∃ (i : Nat) (f1 f2 f3 f4 : Nat → Int), i ≤ σ.tr.length ∧ g = σ.tr.length - i ∧ iv = .int .i64 i ∧ RS wr b1 b2 b3 b4 σ.tr.length n f1 f2 f3 f4 ∧ (∀ j t, j < i → σ.tr[j]? = some t → f1 j = t) ∧ PosOk σ.tr i f2 ∧ FillOk σ.tr i σ.lv 0 f3 ∧ FillOk σ.tr i σ.rs (-1) f4 ∧ Below w.heap.size w wr

theorem Rep.below {n m B sb : Nat} {len : Nat → Nat} {x : Option Nat} {T : Nat → Nat} {w w' : World} {σ : St} (h : Rep n m len B x T w sb σ) (hb : Below w.heap.size w w') : Rep n m len B x T w' sb σ := by
  obtain ⟨L, hL⟩ := h
  exact ⟨L, hL.frame hb.size fun b hb2 _ => hb.block b hb2⟩

theorem FillOk.lit {tr : List Int} {i : Nat} {f1 : Nat → Int} {t : Int} (h : ∀ j y, j < i → tr[j]? = some y → f1 j = y) (ht : tr[i]? = some t) : ∀ j y, j < i + 1 → tr[j]? = some y → up f1 i t j = y := fun j y hj hy => by
  by_cases e : j = i
  · subst e
    rw [ht] at hy
    rw [up_same]
    simpa using hy
  · rw [up_ne _ _ e]
    exact h j y (by omega) hy

set_option maxRecDepth 100000 in
set_option maxHeartbeats 2000000 in
theorem readState_any {n m B sb : Nat} {len : Nat → Nat} {cl0 : Nat → Nat → Int} {T : Nat → Nat} {w : World} {σ : St} (hf : Form n m len cl0) (h : Rep n m len B none T w sb σ) (hb : Base n m len cl0 σ) :
    Calls Try.prog 30 #[.pointer (some ⟨sb, 0, none⟩), .int .i64 (n : Int), .int .i64 (m : Int)] w fun e w' => RSPost n w σ e w' := by
  have hn := hf.n1
  have hm := hf.m1
  have htl := hb.trlen
  have hvl : decide (n < σ.tr.length) = false := decide_eq_false (by omega)
  have hmk1 := run_make_row' (P := Try.prog) 23 21 (.int .i32 0) 4 Try.underlying23 info21 rfl .i64 .i64 σ.tr.length (by omega) (by omega)
  have hmk2 := run_make_row' (P := Try.prog) 42 3 (.int .i64 0) 8 Try.underlying42 info3 rfl .i64 .i64 n (by omega) (by omega)
  have hmk3 := run_make_row' (P := Try.prog) 23 21 (.int .i32 0) 4 Try.underlying23 info21 rfl .i64 .i64 n (by omega) (by omega)
  go_enter Try.func30, Try.ntmps30
  go_wp2_with (go_at_call 23; refine (zzTrailLen h).mono ?_; rintro e w' ⟨rfl, hw9⟩; have hw8 := hw9.symm; clear hw9; subst hw8)
  have hst : RS ((((w.alloc (.cells (madeCells #[.int .i32 0] σ.tr.length) 21)).alloc (.cells (madeCells #[.int .i64 0] n) 3)).alloc (.cells (madeCells #[.int .i32 0] n) 21)).alloc (.cells (madeCells #[.int .i32 0] n) 21)) w.heap.size (w.heap.size + 1) (w.heap.size + 1 + 1) (w.heap.size + 1 + 1 + 1) σ.tr.length n (fun _ => 0) (fun _ => 0) (fun _ => 0) (fun _ => 0) := by
    refine ⟨(((World.rowIs_made w (.int .i32 0) σ.tr.length 21).alloc _).alloc _).alloc _, ?_, ?_, ?_, by omega⟩
    · have := World.rowIs_made (w.alloc (.cells (madeCells #[.int .i32 0] σ.tr.length) 21)) (.int .i64 0) n 3
      rw [World.size_alloc] at this
      exact (this.alloc _).alloc _
    · have := World.rowIs_made ((w.alloc (.cells (madeCells #[.int .i32 0] σ.tr.length) 21)).alloc (.cells (madeCells #[.int .i64 0] n) 3)) (.int .i32 0) n 21
      rw [World.size_alloc, World.size_alloc] at this
      exact this.alloc _
    · have := World.rowIs_made (((w.alloc (.cells (madeCells #[.int .i32 0] σ.tr.length) 21)).alloc (.cells (madeCells #[.int .i64 0] n) 3)).alloc (.cells (madeCells #[.int .i32 0] n) 21)) (.int .i32 0) n 21
      rw [World.size_alloc, World.size_alloc, World.size_alloc] at this
      exact this
  have hbel : Below w.heap.size w ((((w.alloc (.cells (madeCells #[.int .i32 0] σ.tr.length) 21)).alloc (.cells (madeCells #[.int .i64 0] n) 3)).alloc (.cells (madeCells #[.int .i32 0] n) 21)).alloc (.cells (madeCells #[.int .i32 0] n) 21)) :=
    ((((Below.refl _ _).alloc (Nat.le_refl _) _).alloc (by simp) _).alloc (by simp; omega) _).alloc (by simp; omega) _
  have hb2 : w.heap.size ≤ w.heap.size + 1 := by omega
  have hb3 : w.heap.size ≤ w.heap.size + 1 + 1 := by omega
  have hb4 : w.heap.size ≤ w.heap.size + 1 + 1 + 1 := by omega
  generalize ((((w.alloc (.cells (madeCells #[.int .i32 0] σ.tr.length) 21)).alloc (.cells (madeCells #[.int .i64 0] n) 3)).alloc (.cells (madeCells #[.int .i32 0] n) 21)).alloc (.cells (madeCells #[.int .i32 0] n) 21)) = w4 at *
  generalize w.heap.size + 1 + 1 + 1 = b4 at *
  generalize w.heap.size + 1 + 1 = b3 at *
  generalize w.heap.size + 1 = b2 at *
  generalize hb1e : w.heap.size = b1 at hst ⊢
  have hb1 : w.heap.size ≤ b1 := by omega
  clear hb1e
  clear hmk1 hmk2 hmk3
  go_loopg [16] n (fun g iv wr => ∃ v : Nat, v ≤ n ∧ g = n - v ∧ iv = .int .i64 v ∧ RS wr b1 b2 b3 b4 σ.tr.length n (fun _ => 0) (fun j => if j < v then -1 else 0) (fun _ => 0) (fun j => if j < v then -1 else 0) ∧ Below w.heap.size w wr)
  case atStart => exact ⟨0, by omega, rfl, rfl, hst.congr (fun _ _ => rfl) (fun _ _ => rfl) (fun _ _ => rfl) (fun _ _ => rfl), hbel⟩
  case round =>
    clear hst hbel
    obtain ⟨v, hv, hg, rfl, hr, hbel⟩ := hrel
    have Hg := hide hg
    clear hg
    by_cases hlt : v < n
    · have hvi : (v : Int) < (n : Int) := by omega
      have c2 := hr.r2.cell hlt
      have z2 := hr.r2.frozen v
      have H1 : Hid (RS (wr.setCell ⟨b2, v, none⟩ (.int .i64 (-1))) b1 b2 b3 b4 σ.tr.length n (fun _ => 0) (fun j => if j < v + 1 then -1 else 0) (fun _ => 0) (fun j => if j < v then -1 else 0)) :=
        (hr.set2 v (-1)).congr (fun _ _ => rfl) (fun j _ => by unfold up; by_cases e : j = v <;> simp [e] <;> (have : (j < v + 1) ↔ j < v := by omega) <;> simp [this]) (fun _ _ => rfl) (fun _ _ => rfl)
      have H2 : Hid (Below w.heap.size w (wr.setCell ⟨b2, v, none⟩ (.int .i64 (-1)))) := hbel.setCell hb2 _
      clear hr hbel
      go_upto_region 12 with fail
      have hr := H1.out
      have hbel := H2.out
      clear H1 H2 c2 z2
      generalize wr.setCell ⟨b2, v, none⟩ (.int .i64 (-1)) = w5 at *
      have c4 := hr.r4.cell hlt
      have z4 := hr.r4.frozen v
      have H1 : Hid (RS (w5.setCell ⟨b4, v, none⟩ (.int .i32 (-1))) b1 b2 b3 b4 σ.tr.length n (fun _ => 0) (fun j => if j < v + 1 then -1 else 0) (fun _ => 0) (fun j => if j < v + 1 then -1 else 0)) :=
        (hr.set4 v (-1)).congr (fun _ _ => rfl) (fun _ _ => rfl) (fun _ _ => rfl) (fun j _ => by unfold up; by_cases e : j = v <;> simp [e] <;> (have : (j < v + 1) ↔ j < v := by omega) <;> simp [this])
      have H2 : Hid (Below w.heap.size w (w5.setCell ⟨b4, v, none⟩ (.int .i32 (-1)))) := hbel.setCell hb4 _
      clear hr hbel
      go_wp2
      go_roundg (n - (v + 1))
      case measure => rw [Hg.out]; omega
      case rel => exact ⟨v + 1, by omega, rfl, by go_num, H1.out, H2.out⟩
    · have hvn : v = n := by omega
      subst hvn
      have HS : Hid (RSRel v w σ b1 b2 b3 b4 σ.tr.length (.int .i64 0) wr) := ⟨0, _, _, _, _, by omega, rfl, rfl, hr.congr (g1 := fun _ => 0) (g2 := fun _ => -1) (g3 := fun _ => 0) (g4 := fun _ => -1) (fun _ _ => rfl) (fun j hj => by simp [hj]) (fun _ _ => rfl) (fun j hj => by simp [hj]), fun j t hj => by omega, PosOk.zero _, FillOk.zero _ _ _, FillOk.zero _ _ _, hbel⟩
      clear hr hbel
      obtain ⟨wo, hwo⟩ : ∃ wo : World, wo = wr := ⟨_, rfl⟩
      subst hwo
      go_wp2_with fail
      go_loopg [17] σ.tr.length (fun g iv wr => RSRel v w σ b1 b2 b3 b4 g iv wr)
      case atStart => exact HS.out
      case round =>
        clear HS
        obtain ⟨i, f1, f2, f3, f4, hi, hgi, rfl, hr, hf1, hpos, hf3, hf4, hbel⟩ := hrel
        have Hgi := hide hgi
        clear hgi
        by_cases hli : i < σ.tr.length
        · obtain ⟨t, ht⟩ : ∃ t, σ.tr[i]? = some t := ⟨_, List.getElem?_eq_getElem hli⟩
          have htm := List.mem_of_getElem? ht
          have htr := hb.trng t htm
          have hvt : vr t < v := by unfold vr; omega
          have hfr : f2 (vr t) < 0 := Int.not_le.1 fun hle => hb.fresh ht ((hpos (vr t)).1 hle)
          have c2 : wr.cell? ⟨b2, (t / 2).toNat, none⟩ = some (.int .i64 (f2 (vr t))) := hr.r2.cell hvt
          have hi1 : (0 : Int) ≤ t / 2 := by omega
          have hi2 : t / 2 < (v : Int) := by omega
          have hwv : IntKind.i64.wrap (2 * (v : Int)) = 2 * (v : Int) := by rw [IntKind.wrap_i64]; omega
          have hli2 : (i : Int) < (σ.tr.length : Int) := by omega
          have hrp := h.below hbel
          have hC1 : Calls Try.prog 24 #[.pointer (some ⟨sb, 0, none⟩), .int .i64 (i : Int)] wr fun e w' => e = .returned (.int .i32 t) ∧ w' = wr := zzTrailAt hrp i t ht (by omega)
          have hC2 : Calls Try.prog 26 #[.pointer (some ⟨sb, 0, none⟩), .int .i32 (t / 2)] wr fun e w' => e = .returned (.int .i32 (σ.rs (vr t))) ∧ w' = wr := zzReason hrp (t / 2) hi1 hi2
          have HC1 := hide hC1
          have HC2 := hide hC2
          have hrr := hb.rsr ht
          have hr1 : decide (σ.rs (vr t) < -1) = false := decide_eq_false (by omega)
          have hr2 : decide ((m : Int) ≤ σ.rs (vr t)) = false := decide_eq_false (by omega)
          have hwr : IntKind.i64.wrap (σ.rs (vr t)) = σ.rs (vr t) := by rw [IntKind.wrap_i64]; omega
          clear hC1 hC2 hrr
          go_upto_region 25 with (first | (go_at_call 24; refine HC1.out.mono ?_; rintro e w' ⟨rfl, hw9⟩; have hw8 := hw9.symm; clear hw9; subst hw8) | (go_at_call 25; refine (var_any t _).mono ?_; rintro e w' ⟨rfl, hw9⟩; have hw8 := hw9.symm; clear hw9; subst hw8) | (go_at_call 26; refine HC2.out.mono ?_; rintro e w' ⟨rfl, hw9⟩; have hw8 := hw9.symm; clear hw9; subst hw8))
          have Ht := hide ht
          have Hf1 := hide (FillOk.lit hf1 ht)
          have Hpos := hide (hpos.step ht)
          have Hf3 := hide (hf3.step ht)
          have Hf4 := hide (hf4.step ht)
          have c1 := hr.r1.cell hli
          have z1 := hr.r1.frozen i
          have hr' := hr.set1 i t
          have hbel' : Below w.heap.size w (wr.setCell ⟨b1, i, none⟩ (.int .i32 t)) := hbel.setCell hb1 _
          have H1 := hide (And.intro hr' hbel')
          clear hr hbel hr' hbel' hf1 hpos hf3 hf4 ht hrp
          go_upto_region 26 with fail
          obtain ⟨hr, hbel⟩ := H1.out
          clear H1 c1 z1 c2 HC1 HC2
          generalize wr.setCell ⟨b1, i, none⟩ (.int .i32 t) = w5 at *
          have c2 : w5.cell? ⟨b2, (t / 2).toNat, none⟩ = some (.int .i64 (f2 (vr t))) := hr.r2.cell hvt
          have z2 := hr.r2.frozen (t / 2).toNat
          have hr' : RS (w5.setCell ⟨b2, (t / 2).toNat, none⟩ (.int .i64 i)) b1 b2 b3 b4 σ.tr.length v (up f1 i t) (up f2 (vr t) i) f3 f4 := hr.set2 (vr t) i
          have hbel' : Below w.heap.size w (w5.setCell ⟨b2, (t / 2).toNat, none⟩ (.int .i64 i)) := hbel.setCell hb2 _
          have H1 := hide (And.intro hr' hbel')
          clear hr hbel hr' hbel'
          go_upto_region 27 with fail
          obtain ⟨hr, hbel⟩ := H1.out
          clear H1 c2 z2
          generalize w5.setCell ⟨b2, (t / 2).toNat, none⟩ (.int .i64 i) = w6 at *
          have c3 : w6.cell? ⟨b3, (t / 2).toNat, none⟩ = some (.int .i32 (f3 (vr t))) := hr.r3.cell hvt
          have z3 := hr.r3.frozen (t / 2).toNat
          have hr' : RS (w6.setCell ⟨b3, (t / 2).toNat, none⟩ (.int .i32 (σ.lv (vr t)))) b1 b2 b3 b4 σ.tr.length v (up f1 i t) (up f2 (vr t) i) (up f3 (vr t) (σ.lv (vr t))) f4 := hr.set3 (vr t) (σ.lv (vr t))
          have hbel' : Below w.heap.size w (w6.setCell ⟨b3, (t / 2).toNat, none⟩ (.int .i32 (σ.lv (vr t)))) := hbel.setCell hb3 _
          have H1 := hide (And.intro hr' hbel')
          have hC3 : Calls Try.prog 27 #[.pointer (some ⟨sb, 0, none⟩), .int .i32 (t / 2)] w6 fun e w' => e = .returned (.int .i32 (σ.lv (vr t))) ∧ w' = w6 := zzLevelOf (h.below hbel) (t / 2) hi1 hi2
          have HC3 := hide hC3
          clear hr hbel hr' hbel' hC3
          go_upto_region 28 with (first | (go_at_call 25; refine (var_any t _).mono ?_; rintro e w' ⟨rfl, hw9⟩; have hw8 := hw9.symm; clear hw9; subst hw8) | (go_at_call 27; refine HC3.out.mono ?_; rintro e w' ⟨rfl, hw9⟩; have hw8 := hw9.symm; clear hw9; subst hw8))
          obtain ⟨hr, hbel⟩ := H1.out
          clear H1 c3 z3 HC3
          generalize w6.setCell ⟨b3, (t / 2).toNat, none⟩ (.int .i32 (σ.lv (vr t))) = w7 at *
          have c4 : w7.cell? ⟨b4, (t / 2).toNat, none⟩ = some (.int .i32 (f4 (vr t))) := hr.r4.cell hvt
          have z4 := hr.r4.frozen (t / 2).toNat
          have hr' : RS (w7.setCell ⟨b4, (t / 2).toNat, none⟩ (.int .i32 (σ.rs (vr t)))) b1 b2 b3 b4 σ.tr.length v (up f1 i t) (up f2 (vr t) i) (up f3 (vr t) (σ.lv (vr t))) (up f4 (vr t) (σ.rs (vr t))) := hr.set4 (vr t) (σ.rs (vr t))
          have hbel' : Below w.heap.size w (w7.setCell ⟨b4, (t / 2).toNat, none⟩ (.int .i32 (σ.rs (vr t)))) := hbel.setCell hb4 _
          have H1 := hide (And.intro hr' hbel')
          clear hr hbel hr' hbel'
          go_wp2_with fail
          go_roundg (σ.tr.length - (i + 1))
          case measure => rw [Hgi.out]; omega
          case rel => exact ⟨i + 1, _, _, _, _, by omega, rfl, by go_num, H1.out.1, Hf1.out, Hpos.out, Hf3.out, Hf4.out, H1.out.2⟩
        · have hie : i = σ.tr.length := by omega
          subst hie
          go_wp2
          (try simp only [Exit.inBlock, Exit.then])
          refine bodyPost_ret (results_tmp5 rfl _ _ _) rfl ?_
          exact ⟨b1, b2, b3, b4, f1, f2, f3, f4, rfl, hr, fun j t hj => hf1 j t (List.getElem?_eq_some_iff.1 hj).1 hj, hf3, hf4, hb1, hbel⟩

set_option maxHeartbeats 400000 in
theorem inScope_any {b3 n : Nat} {f3 : Nat → Int} {w : World} (hr : w.rowIs b3 21 n (fun v => .int .i32 (f3 v))) (v : Nat) (hv : v < n) (hn : n ≤ 4096) :
    Calls Try.prog 48 #[.int .i64 (v : Int), .int .i64 (-1), .int .i32 0, .slice (some ⟨b3, 0, none⟩) n n] w fun e w' => e = .returned (.bool (decide (1 ≤ f3 v))) ∧ w' = w := by
  have hc := hr.cell hv
  have hne : ((v : Int) == -1) = false := by rw [beq_eq_false_iff_ne]; omega
  have hvi : (v : Int) < (n : Int) := by omega
  go_enter Try.func48, Try.ntmps48
  go_wp2
  go_ret
  exact ⟨rfl, rfl⟩
end Go.Proofs.Qxb6600345a

import Derived.Test.Qxb6600345aB
namespace Go.Proofs.Qxb6600345a
open Go.RowKit

def up {α : Type} (f : Nat → α) (i : Nat) (v : α) : Nat → α := fun j => if j = i then v else f j
theorem up_same {α : Type} (f : Nat → α) (i : Nat) (v : α) : up f i v i = v := by simp [up]
theorem up_ne {α : Type} (f : Nat → α) {i j : Nat} (v : α) (h : j ≠ i) : up f i v j = f j := by simp [up, h]

/-- block g becomes t's, and t's old one nobody's -/
def retag (T : Nat → Nat) (t g : Nat) : Nat → Nat := fun b => if b = g then t else if T b = t then 0 else T b

theorem retag_keep {T : Nat → Nat} {t g b : Nat} (hg : T g = t ∨ T g = 0) (h0 : T b ≠ 0) (ht : T b ≠ t) : retag T t g b = T b := by
  unfold retag
  have hne : b ≠ g := by intro e; subst e; rcases hg with hg | hg <;> contradiction
  rw [if_neg hne, if_neg ht]
theorem retag_at (T : Nat → Nat) (t g : Nat) : retag T t g g = t := by simp [retag]
theorem retag_zero {T : Nat → Nat} {t g b : Nat} (hb : b ≠ g) (h : T b = 0) : retag T t g b = 0 := by
  unfold retag
  rw [if_neg hb]
  split
  · rfl
  · exact h
theorem retag_tz {T : Nat → Nat} {t g b : Nat} (h : retag T t g b ≠ 0) : b = g ∨ T b ≠ 0 := by
  unfold retag at h
  by_cases hb : b = g
  · exact .inl hb
  · rw [if_neg hb] at h
    split at h
    · exact absurd rfl h
    · exact .inr h

section
variable {n m B sb : Nat} {len : Nat → Nat} {x : Option Nat} {T : Nat → Nat} {w : World} {σ : St} {L : Lay}

theorem RepL.setA (h : RepL n m len B x T w sb σ L) (v : Nat) (y : Int) :
    RepL n m len B x T (w.setCell ⟨L.ab, v, none⟩ (.int .i8 y)) sb { σ with av := up σ.av v y } L := by
  have hs : w.heap.size ≤ (w.setCell ⟨L.ab, v, none⟩ (.int .i8 y)).heap.size := by simp [World.setCell]
  have E : ∀ b, T b ≠ 0 → T b ≠ 4 → (w.setCell ⟨L.ab, v, none⟩ (.int .i8 y)).heap[b]? = w.heap[b]? := fun b _ hb => Below.heap_setCell _ _ _ _ (by rintro rfl; exact hb h.tA)
  exact {
    fS := h.fS.of_block (E _ (by rw [h.tS]; omega) (by rw [h.tS]; omega)),
    f0 := h.f0,
    f1 := h.f1,
    f2 := h.f2,
    f3 := h.f3,
    f4 := h.f4,
    f5 := h.f5,
    f6 := h.f6,
    f7 := h.f7,
    f14 := h.f14,
    rC := h.rC.of_block (E _ (by rw [h.tC]; omega) (by rw [h.tC]; omega)),
    rW := h.rW.of_block (E _ (by rw [h.tW]; omega) (by rw [h.tW]; omega)),
    rA := (h.rA.set v _).congr fun i _ => by simp only [up]; split <;> rfl,
    rL := h.rL.of_block (E _ (by rw [h.tL]; omega) (by rw [h.tL]; omega)),
    rR := h.rR.of_block (E _ (by rw [h.tR]; omega) (by rw [h.tR]; omega)),
    rN := h.rN.of_block (E _ (by rw [h.tN]; omega) (by rw [h.tN]; omega)),
    rc := fun i hi => (h.rc i hi).of_block (E _ (by rw [h.tc i hi]; omega) (by rw [h.tc i hi]; omega)),
    oT := ownsRow_block h.oT fun k hk => E _ (by rw [h.tT k hk]; omega) (by rw [h.tT k hk]; omega),
    oL := ownsRow_block h.oL fun k hk => E _ (by rw [h.tM k hk]; omega) (by rw [h.tM k hk]; omega),
    oW := fun l hl hx => ownsRow_block (h.oW l hl hx) fun k hk => E _ (by rw [h.tw l hl hx k hk]; omega) (by rw [h.tw l hl hx k hk]; omega),
    tS := h.tS,
    tC := h.tC,
    tW := h.tW,
    tA := h.tA,
    tL := h.tL,
    tR := h.tR,
    tN := h.tN,
    tT := h.tT,
    tM := h.tM,
    tc := h.tc,
    tw := h.tw,
    tz := fun b hb => ⟨(h.tz b hb).1, Nat.lt_of_lt_of_le (h.tz b hb).2 hs⟩ }

theorem RepL.setL (h : RepL n m len B x T w sb σ L) (v : Nat) (y : Int) :
    RepL n m len B x T (w.setCell ⟨L.lb, v, none⟩ (.int .i32 y)) sb { σ with lv := up σ.lv v y } L := by
  have hs : w.heap.size ≤ (w.setCell ⟨L.lb, v, none⟩ (.int .i32 y)).heap.size := by simp [World.setCell]
  have E : ∀ b, T b ≠ 0 → T b ≠ 5 → (w.setCell ⟨L.lb, v, none⟩ (.int .i32 y)).heap[b]? = w.heap[b]? := fun b _ hb => Below.heap_setCell _ _ _ _ (by rintro rfl; exact hb h.tL)
  exact {
    fS := h.fS.of_block (E _ (by rw [h.tS]; omega) (by rw [h.tS]; omega)),
    f0 := h.f0,
    f1 := h.f1,
    f2 := h.f2,
    f3 := h.f3,
    f4 := h.f4,
    f5 := h.f5,
    f6 := h.f6,
    f7 := h.f7,
    f14 := h.f14,
    rC := h.rC.of_block (E _ (by rw [h.tC]; omega) (by rw [h.tC]; omega)),
    rW := h.rW.of_block (E _ (by rw [h.tW]; omega) (by rw [h.tW]; omega)),
    rA := h.rA.of_block (E _ (by rw [h.tA]; omega) (by rw [h.tA]; omega)),
    rL := (h.rL.set v _).congr fun i _ => by simp only [up]; split <;> rfl,
    rR := h.rR.of_block (E _ (by rw [h.tR]; omega) (by rw [h.tR]; omega)),
    rN := h.rN.of_block (E _ (by rw [h.tN]; omega) (by rw [h.tN]; omega)),
    rc := fun i hi => (h.rc i hi).of_block (E _ (by rw [h.tc i hi]; omega) (by rw [h.tc i hi]; omega)),
    oT := ownsRow_block h.oT fun k hk => E _ (by rw [h.tT k hk]; omega) (by rw [h.tT k hk]; omega),
    oL := ownsRow_block h.oL fun k hk => E _ (by rw [h.tM k hk]; omega) (by rw [h.tM k hk]; omega),
    oW := fun l hl hx => ownsRow_block (h.oW l hl hx) fun k hk => E _ (by rw [h.tw l hl hx k hk]; omega) (by rw [h.tw l hl hx k hk]; omega),
    tS := h.tS,
    tC := h.tC,
    tW := h.tW,
    tA := h.tA,
    tL := h.tL,
    tR := h.tR,
    tN := h.tN,
    tT := h.tT,
    tM := h.tM,
    tc := h.tc,
    tw := h.tw,
    tz := fun b hb => ⟨(h.tz b hb).1, Nat.lt_of_lt_of_le (h.tz b hb).2 hs⟩ }

theorem RepL.setR (h : RepL n m len B x T w sb σ L) (v : Nat) (y : Int) :
    RepL n m len B x T (w.setCell ⟨L.rb, v, none⟩ (.int .i32 y)) sb { σ with rs := up σ.rs v y } L := by
  have hs : w.heap.size ≤ (w.setCell ⟨L.rb, v, none⟩ (.int .i32 y)).heap.size := by simp [World.setCell]
  have E : ∀ b, T b ≠ 0 → T b ≠ 6 → (w.setCell ⟨L.rb, v, none⟩ (.int .i32 y)).heap[b]? = w.heap[b]? := fun b _ hb => Below.heap_setCell _ _ _ _ (by rintro rfl; exact hb h.tR)
  exact {
    fS := h.fS.of_block (E _ (by rw [h.tS]; omega) (by rw [h.tS]; omega)),
    f0 := h.f0,
    f1 := h.f1,
    f2 := h.f2,
    f3 := h.f3,
    f4 := h.f4,
    f5 := h.f5,
    f6 := h.f6,
    f7 := h.f7,
    f14 := h.f14,
    rC := h.rC.of_block (E _ (by rw [h.tC]; omega) (by rw [h.tC]; omega)),
    rW := h.rW.of_block (E _ (by rw [h.tW]; omega) (by rw [h.tW]; omega)),
    rA := h.rA.of_block (E _ (by rw [h.tA]; omega) (by rw [h.tA]; omega)),
    rL := h.rL.of_block (E _ (by rw [h.tL]; omega) (by rw [h.tL]; omega)),
    rR := (h.rR.set v _).congr fun i _ => by simp only [up]; split <;> rfl,
    rN := h.rN.of_block (E _ (by rw [h.tN]; omega) (by rw [h.tN]; omega)),
    rc := fun i hi => (h.rc i hi).of_block (E _ (by rw [h.tc i hi]; omega) (by rw [h.tc i hi]; omega)),
    oT := ownsRow_block h.oT fun k hk => E _ (by rw [h.tT k hk]; omega) (by rw [h.tT k hk]; omega),
    oL := ownsRow_block h.oL fun k hk => E _ (by rw [h.tM k hk]; omega) (by rw [h.tM k hk]; omega),
    oW := fun l hl hx => ownsRow_block (h.oW l hl hx) fun k hk => E _ (by rw [h.tw l hl hx k hk]; omega) (by rw [h.tw l hl hx k hk]; omega),
    tS := h.tS,
    tC := h.tC,
    tW := h.tW,
    tA := h.tA,
    tL := h.tL,
    tR := h.tR,
    tN := h.tN,
    tT := h.tT,
    tM := h.tM,
    tc := h.tc,
    tw := h.tw,
    tz := fun b hb => ⟨(h.tz b hb).1, Nat.lt_of_lt_of_le (h.tz b hb).2 hs⟩ }

theorem RepL.setN (h : RepL n m len B x T w sb σ L) (v : Nat) (y : Bool) :
    RepL n m len B x T (w.setCell ⟨L.nb, v, none⟩ (.bool y)) sb { σ with sn := up σ.sn v y } L := by
  have hs : w.heap.size ≤ (w.setCell ⟨L.nb, v, none⟩ (.bool y)).heap.size := by simp [World.setCell]
  have E : ∀ b, T b ≠ 0 → T b ≠ 7 → (w.setCell ⟨L.nb, v, none⟩ (.bool y)).heap[b]? = w.heap[b]? := fun b _ hb => Below.heap_setCell _ _ _ _ (by rintro rfl; exact hb h.tN)
  exact {
    fS := h.fS.of_block (E _ (by rw [h.tS]; omega) (by rw [h.tS]; omega)),
    f0 := h.f0,
    f1 := h.f1,
    f2 := h.f2,
    f3 := h.f3,
    f4 := h.f4,
    f5 := h.f5,
    f6 := h.f6,
    f7 := h.f7,
    f14 := h.f14,
    rC := h.rC.of_block (E _ (by rw [h.tC]; omega) (by rw [h.tC]; omega)),
    rW := h.rW.of_block (E _ (by rw [h.tW]; omega) (by rw [h.tW]; omega)),
    rA := h.rA.of_block (E _ (by rw [h.tA]; omega) (by rw [h.tA]; omega)),
    rL := h.rL.of_block (E _ (by rw [h.tL]; omega) (by rw [h.tL]; omega)),
    rR := h.rR.of_block (E _ (by rw [h.tR]; omega) (by rw [h.tR]; omega)),
    rN := (h.rN.set v _).congr fun i _ => by simp only [up]; split <;> rfl,
    rc := fun i hi => (h.rc i hi).of_block (E _ (by rw [h.tc i hi]; omega) (by rw [h.tc i hi]; omega)),
    oT := ownsRow_block h.oT fun k hk => E _ (by rw [h.tT k hk]; omega) (by rw [h.tT k hk]; omega),
    oL := ownsRow_block h.oL fun k hk => E _ (by rw [h.tM k hk]; omega) (by rw [h.tM k hk]; omega),
    oW := fun l hl hx => ownsRow_block (h.oW l hl hx) fun k hk => E _ (by rw [h.tw l hl hx k hk]; omega) (by rw [h.tw l hl hx k hk]; omega),
    tS := h.tS,
    tC := h.tC,
    tW := h.tW,
    tA := h.tA,
    tL := h.tL,
    tR := h.tR,
    tN := h.tN,
    tT := h.tT,
    tM := h.tM,
    tc := h.tc,
    tw := h.tw,
    tz := fun b hb => ⟨(h.tz b hb).1, Nat.lt_of_lt_of_le (h.tz b hb).2 hs⟩ }

theorem RepL.setQ (h : RepL n m len B x T w sb σ L) (q : Nat) :
    RepL n m len B x T (w.setCell ⟨sb, 7, none⟩ (.int .i64 q)) sb { σ with qh := q } { L with F := up L.F 7 (.int .i64 q) } := by
  have hs : w.heap.size ≤ (w.setCell ⟨sb, 7, none⟩ (.int .i64 (q : Int))).heap.size := by simp [World.setCell]
  have E : ∀ b, T b ≠ 0 → T b ≠ 1 → (w.setCell ⟨sb, 7, none⟩ (.int .i64 (q : Int))).heap[b]? = w.heap[b]? := fun b _ hb => Below.heap_setCell _ _ _ _ (by rintro rfl; exact hb h.tS)
  exact {
    fS := h.fS.set 7 _,
    f0 := (up_ne (i := 7) (j := 0) L.F (.int .i64 (q : Int)) (by decide)).trans h.f0,
    f1 := (up_ne (i := 7) (j := 1) L.F (.int .i64 (q : Int)) (by decide)).trans h.f1,
    f2 := (up_ne (i := 7) (j := 2) L.F (.int .i64 (q : Int)) (by decide)).trans h.f2,
    f3 := (up_ne (i := 7) (j := 3) L.F (.int .i64 (q : Int)) (by decide)).trans h.f3,
    f4 := (up_ne (i := 7) (j := 4) L.F (.int .i64 (q : Int)) (by decide)).trans h.f4,
    f5 := (up_ne (i := 7) (j := 5) L.F (.int .i64 (q : Int)) (by decide)).trans h.f5,
    f6 := (up_ne (i := 7) (j := 6) L.F (.int .i64 (q : Int)) (by decide)).trans h.f6,
    f7 := up_same L.F 7 _,
    f14 := (up_ne (i := 7) (j := 14) L.F (.int .i64 (q : Int)) (by decide)).trans h.f14,
    rC := h.rC.of_block (E _ (by rw [h.tC]; omega) (by rw [h.tC]; omega)),
    rW := h.rW.of_block (E _ (by rw [h.tW]; omega) (by rw [h.tW]; omega)),
    rA := h.rA.of_block (E _ (by rw [h.tA]; omega) (by rw [h.tA]; omega)),
    rL := h.rL.of_block (E _ (by rw [h.tL]; omega) (by rw [h.tL]; omega)),
    rR := h.rR.of_block (E _ (by rw [h.tR]; omega) (by rw [h.tR]; omega)),
    rN := h.rN.of_block (E _ (by rw [h.tN]; omega) (by rw [h.tN]; omega)),
    rc := fun i hi => (h.rc i hi).of_block (E _ (by rw [h.tc i hi]; omega) (by rw [h.tc i hi]; omega)),
    oT := ownsRow_block h.oT fun k hk => E _ (by rw [h.tT k hk]; omega) (by rw [h.tT k hk]; omega),
    oL := ownsRow_block h.oL fun k hk => E _ (by rw [h.tM k hk]; omega) (by rw [h.tM k hk]; omega),
    oW := fun l hl hx => ownsRow_block (h.oW l hl hx) fun k hk => E _ (by rw [h.tw l hl hx k hk]; omega) (by rw [h.tw l hl hx k hk]; omega),
    tS := h.tS,
    tC := h.tC,
    tW := h.tW,
    tA := h.tA,
    tL := h.tL,
    tR := h.tR,
    tN := h.tN,
    tT := h.tT,
    tM := h.tM,
    tc := h.tc,
    tw := h.tw,
    tz := fun b hb => ⟨(h.tz b hb).1, Nat.lt_of_lt_of_le (h.tz b hb).2 hs⟩ }

theorem RepL.pushT (h : RepL n m len B x T w sb σ L) {w1 : World} {g cap : Nat} (y : Int)
    (ho : w1.ownsRow B 33 1 (.slice (some ⟨g, 0, none⟩) (σ.tr.length + 1) cap) (σ.tr.length + 1) (σ.tr.map (Value.int .i32) ++ [.int .i32 y])) (hg : w.grownBy w1 L.tv.ownBlock)
    (hl : L.tv.ownBlock = some g ∨ g = w.heap.size) (hlt : g < w1.heap.size) (hBw : B ≤ w.heap.size) :
    RepL n m len B x (retag T 8 g) (w1.setCell ⟨sb, 5, none⟩ (.slice (some ⟨g, 0, none⟩) (σ.tr.length + 1) cap)) sb { σ with tr := σ.tr ++ [y] } { L with F := up L.F 5 (.slice (some ⟨g, 0, none⟩) (σ.tr.length + 1) cap), tv := .slice (some ⟨g, 0, none⟩) (σ.tr.length + 1) cap } ∧
    Grew T (retag T 8 g) w (w1.setCell ⟨sb, 5, none⟩ (.slice (some ⟨g, 0, none⟩) (σ.tr.length + 1) cap)) := by
  generalize hv : Value.slice (some ⟨g, 0, none⟩) (σ.tr.length + 1) cap = v' at *
  have hgt : T g = 8 ∨ T g = 0 := by
    rcases hl with hl | hl
    · exact .inl (h.tT g hl)
    · refine .inr (Classical.byContradiction fun hne => ?_)
      have := (h.tz g hne).2
      omega
  have hbl : ∀ k, L.tv.ownBlock = some k → T k = 8 := h.tT
  have hs : w.heap.size ≤ (w1.setCell ⟨sb, 5, none⟩ v').heap.size := by simp only [World.setCell, Array.size_modify]; exact hg.size
  have hs1 : (w1.setCell ⟨sb, 5, none⟩ v').heap.size = w1.heap.size := by simp [World.setCell]
  have E1 : ∀ b, T b ≠ 0 → T b ≠ 8 → w1.heap[b]? = w.heap[b]? := fun b h0 hb => hg.block b (h.tz b h0).2 (fun e => hb (hbl b e.symm))
  have E : ∀ b, T b ≠ 0 → T b ≠ 8 ∧ T b ≠ 1 → (w1.setCell ⟨sb, 5, none⟩ v').heap[b]? = w.heap[b]? := fun b h0 hb =>
    (Below.heap_setCell _ _ _ _ (by rintro rfl; exact hb.2 h.tS)).trans (E1 b h0 hb.1)
  have ET : ∀ b, T b ≠ 0 → T b ≠ 8 → retag T 8 g b = T b := fun b h0 hb => retag_keep hgt h0 hb
  have hgs : g ≠ sb := by rintro rfl; rcases hgt with e | e <;> rw [h.tS] at e <;> cases e
  have hon : (w1.setCell ⟨sb, 5, none⟩ v').ownsRow B 33 1 v' (σ.tr.length + 1) (σ.tr.map (Value.int .i32) ++ [.int .i32 y]) :=
    ownsRow_block ho fun k hk => Below.heap_setCell _ _ _ _ (by subst hv; simp only [Value.ownBlock, Option.some.injEq] at hk; subst hk; exact hgs)
  refine ⟨?_, ?_, hg.tape, ?_, hs, fun b hb h0 => ⟨?_, ?_⟩⟩
  · exact {
    fS := (h.fS.of_block (E1 _ (by rw [h.tS]; decide) (by rw [h.tS]; decide))).set 5 _,
    f0 := (up_ne (i := 5) (j := 0) L.F v' (by decide)).trans h.f0,
    f1 := (up_ne (i := 5) (j := 1) L.F v' (by decide)).trans h.f1,
    f2 := (up_ne (i := 5) (j := 2) L.F v' (by decide)).trans h.f2,
    f3 := (up_ne (i := 5) (j := 3) L.F v' (by decide)).trans h.f3,
    f4 := (up_ne (i := 5) (j := 4) L.F v' (by decide)).trans h.f4,
    f5 := up_same L.F 5 _,
    f6 := (up_ne (i := 5) (j := 6) L.F v' (by decide)).trans h.f6,
    f7 := (up_ne (i := 5) (j := 7) L.F v' (by decide)).trans h.f7,
    f14 := (up_ne (i := 5) (j := 14) L.F v' (by decide)).trans h.f14,
    rC := h.rC.of_block (E _ (by rw [h.tC]; omega) (by rw [h.tC]; omega)),
    rW := h.rW.of_block (E _ (by rw [h.tW]; omega) (by rw [h.tW]; omega)),
    rA := h.rA.of_block (E _ (by rw [h.tA]; omega) (by rw [h.tA]; omega)),
    rL := h.rL.of_block (E _ (by rw [h.tL]; omega) (by rw [h.tL]; omega)),
    rR := h.rR.of_block (E _ (by rw [h.tR]; omega) (by rw [h.tR]; omega)),
    rN := h.rN.of_block (E _ (by rw [h.tN]; omega) (by rw [h.tN]; omega)),
    rc := fun i hi => (h.rc i hi).of_block (E _ (by rw [h.tc i hi]; omega) (by rw [h.tc i hi]; omega)),
    oT := by simpa using hon,
    oL := ownsRow_block h.oL fun k hk => E _ (by rw [h.tM k hk]; omega) (by rw [h.tM k hk]; omega),
    oW := fun l hl hx => ownsRow_block (h.oW l hl hx) fun k hk => E _ (by rw [h.tw l hl hx k hk]; omega) (by rw [h.tw l hl hx k hk]; omega),
    tS := (ET _ (by rw [h.tS]; omega) (by rw [h.tS]; omega)).trans (h.tS),
    tC := (ET _ (by rw [h.tC]; omega) (by rw [h.tC]; omega)).trans (h.tC),
    tW := (ET _ (by rw [h.tW]; omega) (by rw [h.tW]; omega)).trans (h.tW),
    tA := (ET _ (by rw [h.tA]; omega) (by rw [h.tA]; omega)).trans (h.tA),
    tL := (ET _ (by rw [h.tL]; omega) (by rw [h.tL]; omega)).trans (h.tL),
    tR := (ET _ (by rw [h.tR]; omega) (by rw [h.tR]; omega)).trans (h.tR),
    tN := (ET _ (by rw [h.tN]; omega) (by rw [h.tN]; omega)).trans (h.tN),
    tT := fun k hk => by subst hv; simp only [Value.ownBlock, Option.some.injEq] at hk; subst hk; exact retag_at _ _ _,
    tM := fun k hk => (ET _ (by rw [h.tM k hk]; omega) (by rw [h.tM k hk]; omega)).trans (h.tM k hk),
    tc := fun i hi => (ET _ (by rw [h.tc i hi]; omega) (by rw [h.tc i hi]; omega)).trans (h.tc i hi),
    tw := fun l hl hx k hk => (ET _ (by rw [h.tw l hl hx k hk]; omega) (by rw [h.tw l hl hx k hk]; omega)).trans (h.tw l hl hx k hk),
    tz := fun b hb => by
      rcases retag_tz hb with e | e
      · subst e; rw [hs1]; exact ⟨by rcases hl with hl | hl; (exact (h.tz _ (by rw [hbl _ hl]; decide)).1); omega, hlt⟩
      · exact ⟨(h.tz b e).1, Nat.lt_of_lt_of_le (h.tz b e).2 hs⟩ }
  · exact hg.os
  · exact hg.output
  · rw [Below.heap_setCell _ _ _ _ (by rintro rfl; rw [h.tS] at h0; cases h0)]
    exact hg.block b hb (fun e => by rw [hbl b e.symm] at h0; cases h0)
  · refine retag_zero ?_ h0
    rintro rfl
    rcases hl with hl | hl
    · rw [hbl _ hl] at h0; cases h0
    · omega

theorem RepL.pushM (h : RepL n m len B x T w sb σ L) {w1 : World} {g cap : Nat} (y : Int)
    (ho : w1.ownsRow B 3 1 (.slice (some ⟨g, 0, none⟩) (σ.tl.length + 1) cap) (σ.tl.length + 1) (σ.tl.map (Value.int .i64) ++ [.int .i64 y])) (hg : w.grownBy w1 L.lv.ownBlock)
    (hl : L.lv.ownBlock = some g ∨ g = w.heap.size) (hlt : g < w1.heap.size) (hBw : B ≤ w.heap.size) :
    RepL n m len B x (retag T 9 g) (w1.setCell ⟨sb, 6, none⟩ (.slice (some ⟨g, 0, none⟩) (σ.tl.length + 1) cap)) sb { σ with tl := σ.tl ++ [y] } { L with F := up L.F 6 (.slice (some ⟨g, 0, none⟩) (σ.tl.length + 1) cap), lv := .slice (some ⟨g, 0, none⟩) (σ.tl.length + 1) cap } ∧
    Grew T (retag T 9 g) w (w1.setCell ⟨sb, 6, none⟩ (.slice (some ⟨g, 0, none⟩) (σ.tl.length + 1) cap)) := by
  generalize hv : Value.slice (some ⟨g, 0, none⟩) (σ.tl.length + 1) cap = v' at *
  have hgt : T g = 9 ∨ T g = 0 := by
    rcases hl with hl | hl
    · exact .inl (h.tM g hl)
    · refine .inr (Classical.byContradiction fun hne => ?_)
      have := (h.tz g hne).2
      omega
  have hbl : ∀ k, L.lv.ownBlock = some k → T k = 9 := h.tM
  have hs : w.heap.size ≤ (w1.setCell ⟨sb, 6, none⟩ v').heap.size := by simp only [World.setCell, Array.size_modify]; exact hg.size
  have hs1 : (w1.setCell ⟨sb, 6, none⟩ v').heap.size = w1.heap.size := by simp [World.setCell]
  have E1 : ∀ b, T b ≠ 0 → T b ≠ 9 → w1.heap[b]? = w.heap[b]? := fun b h0 hb => hg.block b (h.tz b h0).2 (fun e => hb (hbl b e.symm))
  have E : ∀ b, T b ≠ 0 → T b ≠ 9 ∧ T b ≠ 1 → (w1.setCell ⟨sb, 6, none⟩ v').heap[b]? = w.heap[b]? := fun b h0 hb =>
    (Below.heap_setCell _ _ _ _ (by rintro rfl; exact hb.2 h.tS)).trans (E1 b h0 hb.1)
  have ET : ∀ b, T b ≠ 0 → T b ≠ 9 → retag T 9 g b = T b := fun b h0 hb => retag_keep hgt h0 hb
  have hgs : g ≠ sb := by rintro rfl; rcases hgt with e | e <;> rw [h.tS] at e <;> cases e
  have hon : (w1.setCell ⟨sb, 6, none⟩ v').ownsRow B 3 1 v' (σ.tl.length + 1) (σ.tl.map (Value.int .i64) ++ [.int .i64 y]) :=
    ownsRow_block ho fun k hk => Below.heap_setCell _ _ _ _ (by subst hv; simp only [Value.ownBlock, Option.some.injEq] at hk; subst hk; exact hgs)
  refine ⟨?_, ?_, hg.tape, ?_, hs, fun b hb h0 => ⟨?_, ?_⟩⟩
  · exact {
    fS := (h.fS.of_block (E1 _ (by rw [h.tS]; decide) (by rw [h.tS]; decide))).set 6 _,
    f0 := (up_ne (i := 6) (j := 0) L.F v' (by decide)).trans h.f0,
    f1 := (up_ne (i := 6) (j := 1) L.F v' (by decide)).trans h.f1,
    f2 := (up_ne (i := 6) (j := 2) L.F v' (by decide)).trans h.f2,
    f3 := (up_ne (i := 6) (j := 3) L.F v' (by decide)).trans h.f3,
    f4 := (up_ne (i := 6) (j := 4) L.F v' (by decide)).trans h.f4,
    f5 := (up_ne (i := 6) (j := 5) L.F v' (by decide)).trans h.f5,
    f6 := up_same L.F 6 _,
    f7 := (up_ne (i := 6) (j := 7) L.F v' (by decide)).trans h.f7,
    f14 := (up_ne (i := 6) (j := 14) L.F v' (by decide)).trans h.f14,
    rC := h.rC.of_block (E _ (by rw [h.tC]; omega) (by rw [h.tC]; omega)),
    rW := h.rW.of_block (E _ (by rw [h.tW]; omega) (by rw [h.tW]; omega)),
    rA := h.rA.of_block (E _ (by rw [h.tA]; omega) (by rw [h.tA]; omega)),
    rL := h.rL.of_block (E _ (by rw [h.tL]; omega) (by rw [h.tL]; omega)),
    rR := h.rR.of_block (E _ (by rw [h.tR]; omega) (by rw [h.tR]; omega)),
    rN := h.rN.of_block (E _ (by rw [h.tN]; omega) (by rw [h.tN]; omega)),
    rc := fun i hi => (h.rc i hi).of_block (E _ (by rw [h.tc i hi]; omega) (by rw [h.tc i hi]; omega)),
    oT := ownsRow_block h.oT fun k hk => E _ (by rw [h.tT k hk]; omega) (by rw [h.tT k hk]; omega),
    oL := by simpa using hon,
    oW := fun l hl hx => ownsRow_block (h.oW l hl hx) fun k hk => E _ (by rw [h.tw l hl hx k hk]; omega) (by rw [h.tw l hl hx k hk]; omega),
    tS := (ET _ (by rw [h.tS]; omega) (by rw [h.tS]; omega)).trans (h.tS),
    tC := (ET _ (by rw [h.tC]; omega) (by rw [h.tC]; omega)).trans (h.tC),
    tW := (ET _ (by rw [h.tW]; omega) (by rw [h.tW]; omega)).trans (h.tW),
    tA := (ET _ (by rw [h.tA]; omega) (by rw [h.tA]; omega)).trans (h.tA),
    tL := (ET _ (by rw [h.tL]; omega) (by rw [h.tL]; omega)).trans (h.tL),
    tR := (ET _ (by rw [h.tR]; omega) (by rw [h.tR]; omega)).trans (h.tR),
    tN := (ET _ (by rw [h.tN]; omega) (by rw [h.tN]; omega)).trans (h.tN),
    tT := fun k hk => (ET _ (by rw [h.tT k hk]; omega) (by rw [h.tT k hk]; omega)).trans (h.tT k hk),
    tM := fun k hk => by subst hv; simp only [Value.ownBlock, Option.some.injEq] at hk; subst hk; exact retag_at _ _ _,
    tc := fun i hi => (ET _ (by rw [h.tc i hi]; omega) (by rw [h.tc i hi]; omega)).trans (h.tc i hi),
    tw := fun l hl hx k hk => (ET _ (by rw [h.tw l hl hx k hk]; omega) (by rw [h.tw l hl hx k hk]; omega)).trans (h.tw l hl hx k hk),
    tz := fun b hb => by
      rcases retag_tz hb with e | e
      · subst e; rw [hs1]; exact ⟨by rcases hl with hl | hl; (exact (h.tz _ (by rw [hbl _ hl]; decide)).1); omega, hlt⟩
      · exact ⟨(h.tz b e).1, Nat.lt_of_lt_of_le (h.tz b e).2 hs⟩ }
  · exact hg.os
  · exact hg.output
  · rw [Below.heap_setCell _ _ _ _ (by rintro rfl; rw [h.tS] at h0; cases h0)]
    exact hg.block b hb (fun e => by rw [hbl b e.symm] at h0; cases h0)
  · refine retag_zero ?_ h0
    rintro rfl
    rcases hl with hl | hl
    · rw [hbl _ hl] at h0; cases h0
    · omega

/-- a store into clause i -/
theorem RepL.setC (h : RepL n m len B x T w sb σ L) (i k : Nat) (hi : i < m) (y : Int) :
    RepL n m len B x T (w.setCell ⟨L.cf i, k, none⟩ (.int .i32 y)) sb { σ with cl := up σ.cl i (up (σ.cl i) k y) } L := by
  have hs : w.heap.size ≤ (w.setCell ⟨L.cf i, k, none⟩ (.int .i32 y)).heap.size := by simp [World.setCell]
  have E : ∀ b, T b ≠ 0 → T b ≠ 10 + 2 * i → (w.setCell ⟨L.cf i, k, none⟩ (.int .i32 y)).heap[b]? = w.heap[b]? := fun b _ hb => Below.heap_setCell _ _ _ _ (by rintro rfl; exact hb (h.tc i hi))
  exact {
    fS := h.fS.of_block (E _ (by rw [h.tS]; omega) (by rw [h.tS]; omega)),
    f0 := h.f0,
    f1 := h.f1,
    f2 := h.f2,
    f3 := h.f3,
    f4 := h.f4,
    f5 := h.f5,
    f6 := h.f6,
    f7 := h.f7,
    f14 := h.f14,
    rC := h.rC.of_block (E _ (by rw [h.tC]; omega) (by rw [h.tC]; omega)),
    rW := h.rW.of_block (E _ (by rw [h.tW]; omega) (by rw [h.tW]; omega)),
    rA := h.rA.of_block (E _ (by rw [h.tA]; omega) (by rw [h.tA]; omega)),
    rL := h.rL.of_block (E _ (by rw [h.tL]; omega) (by rw [h.tL]; omega)),
    rR := h.rR.of_block (E _ (by rw [h.tR]; omega) (by rw [h.tR]; omega)),
    rN := h.rN.of_block (E _ (by rw [h.tN]; omega) (by rw [h.tN]; omega)),
    rc := fun j hj => by
      by_cases e : j = i
      · subst e; refine ((h.rc j hj).set k _).congr fun q _ => ?_; simp only [up_same]; simp only [up]; split <;> rfl
      · simp only [up_ne _ _ e]; exact (h.rc j hj).of_block (E _ (by rw [h.tc j hj]; omega) (by rw [h.tc j hj]; omega)),
    oT := ownsRow_block h.oT fun k hk => E _ (by rw [h.tT k hk]; omega) (by rw [h.tT k hk]; omega),
    oL := ownsRow_block h.oL fun k hk => E _ (by rw [h.tM k hk]; omega) (by rw [h.tM k hk]; omega),
    oW := fun l hl hx => ownsRow_block (h.oW l hl hx) fun k hk => E _ (by rw [h.tw l hl hx k hk]; omega) (by rw [h.tw l hl hx k hk]; omega),
    tS := h.tS,
    tC := h.tC,
    tW := h.tW,
    tA := h.tA,
    tL := h.tL,
    tR := h.tR,
    tN := h.tN,
    tT := h.tT,
    tM := h.tM,
    tc := h.tc,
    tw := h.tw,
    tz := fun b hb => ⟨(h.tz b hb).1, Nat.lt_of_lt_of_le (h.tz b hb).2 hs⟩ }

/-- an append to watch list l, and the header's store -/
theorem RepL.pushW (h : RepL n m len B x T w sb σ L) {w1 : World} {g cap : Nat} (l : Nat) (hl2 : l < 2 * n) (hxl : x ≠ some l) (y : Int)
    (ho : w1.ownsRow B 21 1 (.slice (some ⟨g, 0, none⟩) ((σ.wt l).length + 1) cap) ((σ.wt l).length + 1) ((σ.wt l).map (Value.int .i32) ++ [.int .i32 y])) (hg : w.grownBy w1 (L.wv l).ownBlock)
    (hl : (L.wv l).ownBlock = some g ∨ g = w.heap.size) (hlt : g < w1.heap.size) (hBw : B ≤ w.heap.size) :
    RepL n m len B x (retag T (11 + 2 * l) g) (w1.setCell ⟨L.wb, l, none⟩ (.slice (some ⟨g, 0, none⟩) ((σ.wt l).length + 1) cap)) sb { σ with wt := up σ.wt l (σ.wt l ++ [y]) } { L with wv := up L.wv l (.slice (some ⟨g, 0, none⟩) ((σ.wt l).length + 1) cap) } ∧
    Grew T (retag T (11 + 2 * l) g) w (w1.setCell ⟨L.wb, l, none⟩ (.slice (some ⟨g, 0, none⟩) ((σ.wt l).length + 1) cap)) := by
  generalize hv : Value.slice (some ⟨g, 0, none⟩) ((σ.wt l).length + 1) cap = v' at *
  have hgt : T g = 11 + 2 * l ∨ T g = 0 := by
    rcases hl with hl | hl
    · exact .inl (h.tw l hl2 hxl g hl)
    · refine .inr (Classical.byContradiction fun hne => ?_)
      have := (h.tz g hne).2
      omega
  have hbl : ∀ k, (L.wv l).ownBlock = some k → T k = 11 + 2 * l := h.tw l hl2 hxl
  have hs : w.heap.size ≤ (w1.setCell ⟨L.wb, l, none⟩ v').heap.size := by simp only [World.setCell, Array.size_modify]; exact hg.size
  have hs1 : (w1.setCell ⟨L.wb, l, none⟩ v').heap.size = w1.heap.size := by simp [World.setCell]
  have E1 : ∀ b, T b ≠ 0 → T b ≠ 11 + 2 * l → w1.heap[b]? = w.heap[b]? := fun b h0 hb => hg.block b (h.tz b h0).2 (fun e => hb (hbl b e.symm))
  have E : ∀ b, T b ≠ 0 → T b ≠ 11 + 2 * l ∧ T b ≠ 3 → (w1.setCell ⟨L.wb, l, none⟩ v').heap[b]? = w.heap[b]? := fun b h0 hb =>
    (Below.heap_setCell _ _ _ _ (by rintro rfl; exact hb.2 h.tW)).trans (E1 b h0 hb.1)
  have ET : ∀ b, T b ≠ 0 → T b ≠ 11 + 2 * l → retag T (11 + 2 * l) g b = T b := fun b h0 hb => retag_keep hgt h0 hb
  have hgs : g ≠ L.wb := by rintro rfl; rcases hgt with e | e <;> rw [h.tW] at e <;> omega
  have hon : (w1.setCell ⟨L.wb, l, none⟩ v').ownsRow B 21 1 v' ((σ.wt l).length + 1) ((σ.wt l).map (Value.int .i32) ++ [.int .i32 y]) :=
    ownsRow_block ho fun k hk => Below.heap_setCell _ _ _ _ (by subst hv; simp only [Value.ownBlock, Option.some.injEq] at hk; subst hk; exact hgs)
  refine ⟨?_, ?_, hg.tape, ?_, hs, fun b hb h0 => ⟨?_, ?_⟩⟩
  · exact {
    fS := h.fS.of_block (E _ (by rw [h.tS]; omega) (by rw [h.tS]; omega)),
    f0 := h.f0,
    f1 := h.f1,
    f2 := h.f2,
    f3 := h.f3,
    f4 := h.f4,
    f5 := h.f5,
    f6 := h.f6,
    f7 := h.f7,
    f14 := h.f14,
    rC := h.rC.of_block (E _ (by rw [h.tC]; omega) (by rw [h.tC]; omega)),
    rW := ((h.rW.of_block (E1 _ (by rw [h.tW]; omega) (by rw [h.tW]; omega))).set l _),
    rA := h.rA.of_block (E _ (by rw [h.tA]; omega) (by rw [h.tA]; omega)),
    rL := h.rL.of_block (E _ (by rw [h.tL]; omega) (by rw [h.tL]; omega)),
    rR := h.rR.of_block (E _ (by rw [h.tR]; omega) (by rw [h.tR]; omega)),
    rN := h.rN.of_block (E _ (by rw [h.tN]; omega) (by rw [h.tN]; omega)),
    rc := fun i hi => (h.rc i hi).of_block (E _ (by rw [h.tc i hi]; omega) (by rw [h.tc i hi]; omega)),
    oT := ownsRow_block h.oT fun k hk => E _ (by rw [h.tT k hk]; omega) (by rw [h.tT k hk]; omega),
    oL := ownsRow_block h.oL fun k hk => E _ (by rw [h.tM k hk]; omega) (by rw [h.tM k hk]; omega),
    oW := fun j hj hx => by
      by_cases e : j = l
      · subst e; simp only [up_same]; simpa using hon
      · simp only [up_ne _ _ e]; exact ownsRow_block (h.oW j hj hx) fun k hk => E k (by rw [h.tw j hj hx k hk]; omega) (by rw [h.tw j hj hx k hk]; omega),
    tS := (ET _ (by rw [h.tS]; omega) (by rw [h.tS]; omega)).trans (h.tS),
    tC := (ET _ (by rw [h.tC]; omega) (by rw [h.tC]; omega)).trans (h.tC),
    tW := (ET _ (by rw [h.tW]; omega) (by rw [h.tW]; omega)).trans (h.tW),
    tA := (ET _ (by rw [h.tA]; omega) (by rw [h.tA]; omega)).trans (h.tA),
    tL := (ET _ (by rw [h.tL]; omega) (by rw [h.tL]; omega)).trans (h.tL),
    tR := (ET _ (by rw [h.tR]; omega) (by rw [h.tR]; omega)).trans (h.tR),
    tN := (ET _ (by rw [h.tN]; omega) (by rw [h.tN]; omega)).trans (h.tN),
    tT := fun k hk => (ET _ (by rw [h.tT k hk]; omega) (by rw [h.tT k hk]; omega)).trans (h.tT k hk),
    tM := fun k hk => (ET _ (by rw [h.tM k hk]; omega) (by rw [h.tM k hk]; omega)).trans (h.tM k hk),
    tc := fun i hi => (ET _ (by rw [h.tc i hi]; omega) (by rw [h.tc i hi]; omega)).trans (h.tc i hi),
    tw := fun j hj hx k hk => by
      by_cases e : j = l
      · subst e; simp only [up_same] at hk; subst hv; simp only [Value.ownBlock, Option.some.injEq] at hk; subst hk; exact retag_at _ _ _
      · simp only [up_ne _ _ e] at hk; exact (ET _ (by rw [h.tw j hj hx k hk]; omega) (by rw [h.tw j hj hx k hk]; omega)).trans (h.tw j hj hx k hk),
    tz := fun b hb => by
      rcases retag_tz hb with e | e
      · subst e; rw [hs1]; exact ⟨by rcases hl with hl | hl; (exact (h.tz _ (by rw [hbl _ hl]; omega)).1); omega, hlt⟩
      · exact ⟨(h.tz b e).1, Nat.lt_of_lt_of_le (h.tz b e).2 hs⟩ }
  · exact hg.os
  · exact hg.output
  · rw [Below.heap_setCell _ _ _ _ (by rintro rfl; rw [h.tW] at h0; cases h0)]
    exact hg.block b hb (fun e => by rw [hbl b e.symm] at h0; omega)
  · refine retag_zero ?_ h0
    rintro rfl
    rcases hl with hl | hl
    · rw [hbl _ hl] at h0; omega
    · omega

/-- p's own watch list is taken out -/
theorem RepL.openX (h : RepL n m len B none T w sb σ L) (p : Nat) : RepL n m len B (some p) (fun b => if T b = 11 + 2 * p then 0 else T b) w sb σ L := by
  have hs : w.heap.size ≤ w.heap.size := Nat.le_refl _
  have E : ∀ b, T b ≠ 0 → T b ≠ 11 + 2 * p → w.heap[b]? = w.heap[b]? := fun _ _ _ => rfl
  have ET : ∀ b, T b ≠ 0 → T b ≠ 11 + 2 * p → (fun b => if T b = 11 + 2 * p then 0 else T b) b = T b := fun b _ hb => by simp only [if_neg hb]
  exact {
    fS := h.fS,
    f0 := h.f0,
    f1 := h.f1,
    f2 := h.f2,
    f3 := h.f3,
    f4 := h.f4,
    f5 := h.f5,
    f6 := h.f6,
    f7 := h.f7,
    f14 := h.f14,
    rC := h.rC,
    rW := h.rW,
    rA := h.rA,
    rL := h.rL,
    rR := h.rR,
    rN := h.rN,
    rc := h.rc,
    oT := h.oT,
    oL := h.oL,
    oW := fun l hl _ => h.oW l hl (by intro e; cases e),
    tS := (ET _ (by rw [h.tS]; omega) (by rw [h.tS]; omega)).trans (h.tS),
    tC := (ET _ (by rw [h.tC]; omega) (by rw [h.tC]; omega)).trans (h.tC),
    tW := (ET _ (by rw [h.tW]; omega) (by rw [h.tW]; omega)).trans (h.tW),
    tA := (ET _ (by rw [h.tA]; omega) (by rw [h.tA]; omega)).trans (h.tA),
    tL := (ET _ (by rw [h.tL]; omega) (by rw [h.tL]; omega)).trans (h.tL),
    tR := (ET _ (by rw [h.tR]; omega) (by rw [h.tR]; omega)).trans (h.tR),
    tN := (ET _ (by rw [h.tN]; omega) (by rw [h.tN]; omega)).trans (h.tN),
    tT := fun k hk => (ET _ (by rw [h.tT k hk]; omega) (by rw [h.tT k hk]; omega)).trans (h.tT k hk),
    tM := fun k hk => (ET _ (by rw [h.tM k hk]; omega) (by rw [h.tM k hk]; omega)).trans (h.tM k hk),
    tc := fun i hi => (ET _ (by rw [h.tc i hi]; omega) (by rw [h.tc i hi]; omega)).trans (h.tc i hi),
    tw := fun l hl hx k hk => (ET _ (by rw [h.tw l hl (by intro e; cases e) k hk]; omega) (by rw [h.tw l hl (by intro e; cases e) k hk]; intro e; exact hx (by rw [show p = l by omega]))).trans (h.tw l hl (by intro e; cases e) k hk),
    tz := fun b hb => h.tz b (by intro e; simp [e] at hb) }

/-- p's own watch list is laid back -/
theorem RepL.setW {p : Nat} (h : RepL n m len B (some p) T w sb σ L) (g len' cap : Nat) (ws : List Int)
    (ho : w.ownsRow B 21 1 (.slice (some ⟨g, 0, none⟩) len' cap) ws.length (ws.map (Value.int .i32))) (hg0 : T g = 0) :
    RepL n m len B none (retag T (11 + 2 * p) g) (w.setCell ⟨L.wb, p, none⟩ (.slice (some ⟨g, 0, none⟩) len' cap)) sb { σ with wt := up σ.wt p ws } { L with wv := up L.wv p (.slice (some ⟨g, 0, none⟩) len' cap) } := by
  generalize hv : Value.slice (some ⟨g, 0, none⟩) len' cap = v' at *
  have hs : w.heap.size ≤ (w.setCell ⟨L.wb, p, none⟩ v').heap.size := by simp [World.setCell]
  have E : ∀ b, T b ≠ 0 → T b ≠ 3 → (w.setCell ⟨L.wb, p, none⟩ v').heap[b]? = w.heap[b]? := fun b _ hb => Below.heap_setCell _ _ _ _ (by rintro rfl; exact hb h.tW)
  have ET : ∀ b, T b ≠ 0 → T b ≠ 11 + 2 * p → retag T (11 + 2 * p) g b = T b := fun b h0 hb => retag_keep (.inr hg0) h0 hb
  have hob : v'.ownBlock = some g := by subst hv; rfl
  have hlt := ho.lt g hob
  have hgw : g ≠ L.wb := by rintro rfl; rw [h.tW] at hg0; cases hg0
  exact {
    fS := h.fS.of_block (E _ (by rw [h.tS]; omega) (by rw [h.tS]; omega)),
    f0 := h.f0,
    f1 := h.f1,
    f2 := h.f2,
    f3 := h.f3,
    f4 := h.f4,
    f5 := h.f5,
    f6 := h.f6,
    f7 := h.f7,
    f14 := h.f14,
    rC := h.rC.of_block (E _ (by rw [h.tC]; omega) (by rw [h.tC]; omega)),
    rW := h.rW.set p _,
    rA := h.rA.of_block (E _ (by rw [h.tA]; omega) (by rw [h.tA]; omega)),
    rL := h.rL.of_block (E _ (by rw [h.tL]; omega) (by rw [h.tL]; omega)),
    rR := h.rR.of_block (E _ (by rw [h.tR]; omega) (by rw [h.tR]; omega)),
    rN := h.rN.of_block (E _ (by rw [h.tN]; omega) (by rw [h.tN]; omega)),
    rc := fun i hi => (h.rc i hi).of_block (E _ (by rw [h.tc i hi]; omega) (by rw [h.tc i hi]; omega)),
    oT := ownsRow_block h.oT fun k hk => E _ (by rw [h.tT k hk]; omega) (by rw [h.tT k hk]; omega),
    oL := ownsRow_block h.oL fun k hk => E _ (by rw [h.tM k hk]; omega) (by rw [h.tM k hk]; omega),
    oW := fun j hj _ => by
      by_cases e : j = p
      · subst e; simp only [up_same]; exact ownsRow_block ho fun k hk => Below.heap_setCell _ _ _ _ (by rw [hob] at hk; obtain rfl := Option.some.inj hk; exact hgw)
      · simp only [up_ne _ _ e]; have hx : some p ≠ some j := by (intro e2; exact e (Option.some.inj e2).symm)
        exact ownsRow_block (h.oW j hj hx) fun k hk => E k (by rw [h.tw j hj hx k hk]; omega) (by rw [h.tw j hj hx k hk]; omega),
    tS := (ET _ (by rw [h.tS]; omega) (by rw [h.tS]; omega)).trans h.tS,
    tC := (ET _ (by rw [h.tC]; omega) (by rw [h.tC]; omega)).trans h.tC,
    tW := (ET _ (by rw [h.tW]; omega) (by rw [h.tW]; omega)).trans h.tW,
    tA := (ET _ (by rw [h.tA]; omega) (by rw [h.tA]; omega)).trans h.tA,
    tL := (ET _ (by rw [h.tL]; omega) (by rw [h.tL]; omega)).trans h.tL,
    tR := (ET _ (by rw [h.tR]; omega) (by rw [h.tR]; omega)).trans h.tR,
    tN := (ET _ (by rw [h.tN]; omega) (by rw [h.tN]; omega)).trans h.tN,
    tT := fun k hk => (ET _ (by rw [h.tT k hk]; omega) (by rw [h.tT k hk]; omega)).trans (h.tT k hk),
    tM := fun k hk => (ET _ (by rw [h.tM k hk]; omega) (by rw [h.tM k hk]; omega)).trans (h.tM k hk),
    tc := fun i hi => (ET _ (by rw [h.tc i hi]; omega) (by rw [h.tc i hi]; omega)).trans (h.tc i hi),
    tw := fun j hj _ k hk => by
      by_cases e : j = p
      · subst e; simp only [up_same] at hk; rw [hob] at hk; obtain rfl := Option.some.inj hk; exact retag_at _ _ _
      · simp only [up_ne _ _ e] at hk; have hx : some p ≠ some j := by (intro e2; exact e (Option.some.inj e2).symm)
        exact (ET _ (by rw [h.tw j hj hx k hk]; omega) (by rw [h.tw j hj hx k hk]; omega)).trans (h.tw j hj hx k hk),
    tz := fun b hb => by
      rcases retag_tz hb with e | e
      · subst e; exact ⟨hlt.1, Nat.lt_of_lt_of_le hlt.2 hs⟩
      · exact ⟨(h.tz b e).1, Nat.lt_of_lt_of_le (h.tz b e).2 hs⟩ }

/-- what is said of p's own list while it is taken out is said of nothing -/
theorem RepL.ghost {p : Nat} (h : RepL n m len B (some p) T w sb σ L) (ws : List Int) : RepL n m len B (some p) T w sb { σ with wt := up σ.wt p ws } L := by
  exact { h with
    oW := fun l hl hx => by
      have e : l ≠ p := by (rintro rfl; exact hx rfl)
      simp only [up_ne _ _ e]
      exact h.oW l hl hx }

/-- the header of list p is stored anew as it is -/
theorem RepL.sameW (h : RepL n m len B x T w sb σ L) (p : Nat) :
    RepL n m len B x T (w.setCell ⟨L.wb, p, none⟩ (L.wv p)) sb σ L := by
  have hs : w.heap.size ≤ (w.setCell ⟨L.wb, p, none⟩ (L.wv p)).heap.size := by simp [World.setCell]
  have E : ∀ b, T b ≠ 0 → T b ≠ 3 → (w.setCell ⟨L.wb, p, none⟩ (L.wv p)).heap[b]? = w.heap[b]? := fun b _ hb => Below.heap_setCell _ _ _ _ (by rintro rfl; exact hb h.tW)
  exact {
    fS := h.fS.of_block (E _ (by rw [h.tS]; omega) (by rw [h.tS]; omega)),
    f0 := h.f0,
    f1 := h.f1,
    f2 := h.f2,
    f3 := h.f3,
    f4 := h.f4,
    f5 := h.f5,
    f6 := h.f6,
    f7 := h.f7,
    f14 := h.f14,
    rC := h.rC.of_block (E _ (by rw [h.tC]; omega) (by rw [h.tC]; omega)),
    rW := (h.rW.set p _).congr fun j _ => by split; (rename_i e; rw [e]); rfl,
    rA := h.rA.of_block (E _ (by rw [h.tA]; omega) (by rw [h.tA]; omega)),
    rL := h.rL.of_block (E _ (by rw [h.tL]; omega) (by rw [h.tL]; omega)),
    rR := h.rR.of_block (E _ (by rw [h.tR]; omega) (by rw [h.tR]; omega)),
    rN := h.rN.of_block (E _ (by rw [h.tN]; omega) (by rw [h.tN]; omega)),
    rc := fun i hi => (h.rc i hi).of_block (E _ (by rw [h.tc i hi]; omega) (by rw [h.tc i hi]; omega)),
    oT := ownsRow_block h.oT fun k hk => E _ (by rw [h.tT k hk]; omega) (by rw [h.tT k hk]; omega),
    oL := ownsRow_block h.oL fun k hk => E _ (by rw [h.tM k hk]; omega) (by rw [h.tM k hk]; omega),
    oW := fun l hl hx => ownsRow_block (h.oW l hl hx) fun k hk => E _ (by rw [h.tw l hl hx k hk]; omega) (by rw [h.tw l hl hx k hk]; omega),
    tS := h.tS,
    tC := h.tC,
    tW := h.tW,
    tA := h.tA,
    tL := h.tL,
    tR := h.tR,
    tN := h.tN,
    tT := h.tT,
    tM := h.tM,
    tc := h.tc,
    tw := h.tw,
    tz := fun b hb => ⟨(h.tz b hb).1, Nat.lt_of_lt_of_le (h.tz b hb).2 hs⟩ }

end
end Go.Proofs.Qxb6600345a

import Derived.Test.Qxb6600345aK
/-! 'build': the solver over fresh copies of the clauses, each watched by the negations of its first two literals. -/
namespace Go.Proofs.Qxb6600345a
open Go.RowKit
set_option linter.unusedVariables false
set_option linter.unusedSimpArgs false

/-- the watch lists behind k clauses -/
def wtB (Z : Nat → Nat → Int) : Nat → Nat → List Int
  | 0 => fun _ => []
  | k + 1 => fun l => wtB Z k l ++ (if l = (ng (Z k 0)).toNat then [(k : Int)] else []) ++ (if l = (ng (Z k 1)).toNat then [(k : Int)] else [])

structure RepB (n m k : Nat) (len : Nat → Nat) (Z : Nat → Nat → Int) (B : Nat) (T : Nat → Nat) (w : World) (cb wb : Nat) (cf : Nat → Nat) (wv : Nat → Value) (wt : Nat → List Int) : Prop where
  rC : w.rowIs cb 53 m (fun i => if i < k then .slice (some ⟨cf i, 0, none⟩) (len i) (len i) else .slice none 0 0)
  rW : w.rowIs wb 23 (2 * n) wv
  rc : ∀ i, i < k → w.rowIs (cf i) 33 (len i) (fun j => .int .i32 (Z i j))
  oW : ∀ l, l < 2 * n → w.ownsRow B 21 1 (wv l) (wt l).length ((wt l).map (Value.int .i32))
  tC : T cb = 2
  tW : T wb = 3
  tc : ∀ i, i < k → T (cf i) = 10 + 2 * i
  tw : ∀ l, l < 2 * n → ∀ q, (wv l).ownBlock = some q → T q = 11 + 2 * l
  tz : ∀ b, T b ≠ 0 → B ≤ b ∧ b < w.heap.size

section
variable {n m k : Nat} {len : Nat → Nat} {Z : Nat → Nat → Int} {B : Nat} {T : Nat → Nat} {w w' : World} {cb wb : Nat} {cf : Nat → Nat} {wv : Nat → Value} {wt : Nat → List Int}

theorem RepB.frame (h : RepB n m k len Z B T w cb wb cf wv wt) (hs : w.heap.size ≤ w'.heap.size) (e : ∀ b, b < w.heap.size → T b ≠ 0 → w'.heap[b]? = w.heap[b]?) : RepB n m k len Z B T w' cb wb cf wv wt := by
  have E : ∀ b, T b ≠ 0 → w'.heap[b]? = w.heap[b]? := fun b hb => e b (h.tz b hb).2 hb
  exact ⟨h.rC.of_block (E _ (by rw [h.tC]; omega)), h.rW.of_block (E _ (by rw [h.tW]; omega)), fun i hi => (h.rc i hi).of_block (E _ (by rw [h.tc i hi]; omega)), fun l hl => ownsRow_block (h.oW l hl) fun q hq => E q (by rw [h.tw l hl q hq]; omega), h.tC, h.tW, h.tc, h.tw, fun b hb => ⟨(h.tz b hb).1, Nat.lt_of_lt_of_le (h.tz b hb).2 hs⟩⟩

theorem RepB.alloc (h : RepB n m k len Z B T w cb wb cf wv wt) (o : Obj) : RepB n m k len Z B T (w.alloc o) cb wb cf wv wt := h.frame (by simp) fun b hb _ => Below.heap_alloc w o b hb

/-- clause k is laid in -/
theorem RepB.addC (h : RepB n m k len Z B T w cb wb cf wv wt) {g : Nat} (hg : w.rowIs g 33 (len k) (fun j => .int .i32 (Z k j))) (hg0 : T g = 0) (hB : B ≤ g) :
    RepB n m (k + 1) len Z B (up T g (10 + 2 * k)) (w.setCell ⟨cb, k, none⟩ (.slice (some ⟨g, 0, none⟩) (len k) (len k))) cb wb (up cf k g) wv wt := by
  have hcb : g ≠ cb := by rintro rfl; rw [h.tC] at hg0; cases hg0
  have E : ∀ b, b ≠ cb → (w.setCell ⟨cb, k, none⟩ (.slice (some ⟨g, 0, none⟩) (len k) (len k))).heap[b]? = w.heap[b]? := fun b hb => Below.heap_setCell _ _ _ _ (by exact hb)
  have hs : (w.setCell ⟨cb, k, none⟩ (.slice (some ⟨g, 0, none⟩) (len k) (len k))).heap.size = w.heap.size := by simp [World.setCell]
  have ET : ∀ b, T b ≠ 0 → up T g (10 + 2 * k) b = T b := fun b hb => up_ne _ _ (by rintro rfl; exact hb hg0)
  refine ⟨(h.rC.set k _).congr (fun i _ => ?_), h.rW.of_block (E _ (by rintro rfl; have a1 := h.tW; have a2 := h.tC; omega)), fun i hi => ?_, fun l hl => ownsRow_block (h.oW l hl) fun q hq => E q (by rintro rfl; have := h.tw l hl q hq; rw [h.tC] at this; omega),
    (ET _ (by rw [h.tC]; omega)).trans h.tC, (ET _ (by rw [h.tW]; omega)).trans h.tW, fun i hi => ?_, fun l hl q hq => (ET _ (by rw [h.tw l hl q hq]; omega)).trans (h.tw l hl q hq), fun b hb => ?_⟩
  · by_cases e : i = k
    · subst e; simp [up]
    · simp only [up, if_neg e]
      by_cases e2 : i < k
      · rw [if_pos e2, if_pos (by omega)]
      · rw [if_neg e2, if_neg (by omega)]
  · by_cases e : i = k
    · subst e
      simp only [up, if_true]
      exact hg.of_block (E _ hcb)
    · simp only [up, if_neg e]
      exact (h.rc i (by omega)).of_block (E _ (by rintro e2; have := h.tc i (by omega); rw [e2, h.tC] at this; omega))
  · by_cases e : i = k
    · subst e; simp [up]
    · simp only [up, if_neg e]
      have := h.tc i (by omega)
      have hne : cf i ≠ g := by rintro e2; rw [e2, hg0] at this; omega
      rw [if_neg hne]
      exact this
  · rw [hs]
    by_cases e : b = g
    · subst e; exact ⟨hB, hg.lt⟩
    · rw [up_ne _ _ e] at hb
      exact h.tz b hb

/-- an append to watch list l, and the header's store -/
theorem RepB.pushW (h : RepB n m k len Z B T w cb wb cf wv wt) {w1 : World} {g cap : Nat} (l : Nat) (hl2 : l < 2 * n) (y : Int)
    (ho : w1.ownsRow B 21 1 (.slice (some ⟨g, 0, none⟩) ((wt l).length + 1) cap) ((wt l).length + 1) ((wt l).map (Value.int .i32) ++ [.int .i32 y])) (hg : w.grownBy w1 (wv l).ownBlock)
    (hl : (wv l).ownBlock = some g ∨ g = w.heap.size) (hlt : g < w1.heap.size) (hBw : B ≤ w.heap.size) :
    RepB n m k len Z B (retag T (11 + 2 * l) g) (w1.setCell ⟨wb, l, none⟩ (.slice (some ⟨g, 0, none⟩) ((wt l).length + 1) cap)) cb wb cf (up wv l (.slice (some ⟨g, 0, none⟩) ((wt l).length + 1) cap)) (up wt l (wt l ++ [y])) := by
  generalize hv : Value.slice (some ⟨g, 0, none⟩) ((wt l).length + 1) cap = v' at *
  have hgt : T g = 11 + 2 * l ∨ T g = 0 := by
    rcases hl with hl | hl
    · exact .inl (h.tw l hl2 g hl)
    · refine .inr (Classical.byContradiction fun hne => ?_)
      have := (h.tz g hne).2
      omega
  have hbl : ∀ q, (wv l).ownBlock = some q → T q = 11 + 2 * l := h.tw l hl2
  have hs : w.heap.size ≤ (w1.setCell ⟨wb, l, none⟩ v').heap.size := by simp only [World.setCell, Array.size_modify]; exact hg.size
  have hs1 : (w1.setCell ⟨wb, l, none⟩ v').heap.size = w1.heap.size := by simp [World.setCell]
  have E1 : ∀ b, T b ≠ 0 → T b ≠ 11 + 2 * l → w1.heap[b]? = w.heap[b]? := fun b h0 hb => hg.block b (h.tz b h0).2 (fun e => hb (hbl b e.symm))
  have E : ∀ b, T b ≠ 0 → T b ≠ 11 + 2 * l ∧ T b ≠ 3 → (w1.setCell ⟨wb, l, none⟩ v').heap[b]? = w.heap[b]? := fun b h0 hb =>
    (Below.heap_setCell _ _ _ _ (by rintro rfl; exact hb.2 h.tW)).trans (E1 b h0 hb.1)
  have ET : ∀ b, T b ≠ 0 → T b ≠ 11 + 2 * l → retag T (11 + 2 * l) g b = T b := fun b h0 hb => retag_keep hgt h0 hb
  have hgs : g ≠ wb := by rintro rfl; rcases hgt with e | e <;> rw [h.tW] at e <;> omega
  have hon : (w1.setCell ⟨wb, l, none⟩ v').ownsRow B 21 1 v' ((wt l).length + 1) ((wt l).map (Value.int .i32) ++ [.int .i32 y]) :=
    ownsRow_block ho fun q hq => Below.heap_setCell _ _ _ _ (by subst hv; simp only [Value.ownBlock, Option.some.injEq] at hq; subst hq; exact hgs)
  refine ⟨h.rC.of_block (E _ (by rw [h.tC]; omega) (by rw [h.tC]; omega)), (h.rW.of_block (E1 _ (by rw [h.tW]; omega) (by rw [h.tW]; omega))).set l _, fun i hi => (h.rc i hi).of_block (E _ (by rw [h.tc i hi]; omega) (by rw [h.tc i hi]; omega)), fun j hj => ?_,
    (ET _ (by rw [h.tC]; omega) (by rw [h.tC]; omega)).trans h.tC, (ET _ (by rw [h.tW]; omega) (by rw [h.tW]; omega)).trans h.tW, fun i hi => (ET _ (by rw [h.tc i hi]; omega) (by rw [h.tc i hi]; omega)).trans (h.tc i hi), fun j hj q hq => ?_, fun b hb => ?_⟩
  · by_cases e : j = l
    · subst e; simp only [up_same]; simpa using hon
    · simp only [up_ne _ _ e]; exact ownsRow_block (h.oW j hj) fun q hq => E q (by rw [h.tw j hj q hq]; omega) (by rw [h.tw j hj q hq]; omega)
  · by_cases e : j = l
    · subst e; simp only [up_same] at hq; subst hv; simp only [Value.ownBlock, Option.some.injEq] at hq; subst hq; exact retag_at _ _ _
    · simp only [up_ne _ _ e] at hq; exact (ET _ (by rw [h.tw j hj q hq]; omega) (by rw [h.tw j hj q hq]; omega)).trans (h.tw j hj q hq)
  · rcases retag_tz hb with e | e
    · subst e; rw [hs1]; exact ⟨by rcases hl with hl | hl; (exact (h.tz _ (by rw [hbl _ hl]; omega)).1); omega, hlt⟩
    · exact ⟨(h.tz b e).1, Nat.lt_of_lt_of_le (h.tz b e).2 hs⟩
end

theorem info53 : (Try.prog.info? 53).map (fun i => (i.zero, i.size, i.bytes)) = some (some (.slice none 0 0), 1, 24) := by kernel_rfl

def BRel (n m : Nat) (len : Nat → Nat) (Z : Nat → Nat → Int) (w0 : World) (g : Nat) (iv : Value) (wr : World) : Prop :=
  ∃ (k : Nat) (T cf : Nat → Nat) (wv : Nat → Value), k ≤ m ∧ g = m - k ∧ iv = .int .i64 k ∧ RepB n m k len Z w0.heap.size T wr w0.heap.size (w0.heap.size + 1) cf wv (wtB Z k) ∧ Below w0.heap.size w0 wr

theorem wtB_succ (Z : Nat → Nat → Int) (k : Nat) (h : (ng (Z k 0)).toNat ≠ (ng (Z k 1)).toNat) :
    up (up (wtB Z k) (ng (Z k 0)).toNat (wtB Z k (ng (Z k 0)).toNat ++ [(k : Int)])) (ng (Z k 1)).toNat (up (wtB Z k) (ng (Z k 0)).toNat (wtB Z k (ng (Z k 0)).toNat ++ [(k : Int)]) (ng (Z k 1)).toNat ++ [(k : Int)]) = wtB Z (k + 1) := by
  funext l
  simp only [up, wtB]
  by_cases e1 : l = (ng (Z k 1)).toNat
  · rw [if_pos e1, if_neg (Ne.symm h), if_neg (by omega), if_pos e1, e1]; simp
  · by_cases e0 : l = (ng (Z k 0)).toNat
    · rw [if_neg e1, if_pos e0, if_pos e0, if_neg e1, e0]; simp
    · rw [if_neg e1, if_neg e0, if_neg e0, if_neg e1]; simp

theorem wtB_len (Z : Nat → Nat → Int) : ∀ k l, (wtB Z k l).length ≤ 2 * k
  | 0, l => by simp [wtB]
  | k + 1, l => by
    have := wtB_len Z k l
    simp only [wtB, List.length_append]
    split <;> split <;> simp <;> omega

def BuPost (n m : Nat) (len : Nat → Nat) (Z : Nat → Nat → Int) (w : World) (e : Ending) (w' : World) : Prop :=
  ∃ sb T, e = .returned (.pointer (some ⟨sb, 0, none⟩)) ∧ Rep n m len w.heap.size none T w' sb { cl := Z, wt := wtB Z m, av := fun _ => 0, lv := fun _ => 0, rs := fun _ => 0, tr := [], tl := [], qh := 0, sn := fun _ => false } ∧ Grew (fun _ => 0) T w w'

theorem repB_done {n m : Nat} {len : Nat → Nat} {Z : Nat → Nat → Int} {T : Nat → Nat} {w0 w w' : World} {cf : Nat → Nat} {wv : Nat → Value} {e : Ending} (h : RepB n m m len Z w0.heap.size T w w0.heap.size (w0.heap.size + 1) cf wv (wtB Z m)) (hb : Below w0.heap.size w0 w)
    (hp : NsPost n (.slice (some ⟨w0.heap.size, 0, none⟩) m m) (.slice (some ⟨w0.heap.size + 1, 0, none⟩) (2 * n) (2 * n)) w e w') : BuPost n m len Z w0 e w' := by
  obtain ⟨sb, ab, lb, rb, nb, F, rfl, hF, f0, f1, f2, f3, f4, f5, f6, f7, f14, rA, rL, rR, rN, ls, la, ll, lr, ln, hnd, hb2⟩ := hp
  simp only [List.nodup_cons, List.mem_cons, List.not_mem_nil, or_false, not_or, not_false_eq_true, and_true, List.nodup_nil] at hnd
  obtain ⟨⟨n1, n2, n3, n4⟩, ⟨n5, n6, n7⟩, ⟨n8, n9⟩, n10⟩ := hnd
  have E : ∀ b, T b ≠ 0 → w'.heap[b]? = w.heap[b]? := fun b h0 => hb2.block b (h.tz b h0).2
  have hT : ∀ b, T b ≠ 0 → (if b = sb then 1 else if b = ab then 4 else if b = lb then 5 else if b = rb then 6 else if b = nb then 7 else T b) = T b := fun b h0 => by
    have := (h.tz b h0).2
    rw [if_neg (by omega), if_neg (by omega), if_neg (by omega), if_neg (by omega), if_neg (by omega)]
  have hsz := hb.size
  refine ⟨sb, fun b => if b = sb then 1 else if b = ab then 4 else if b = lb then 5 else if b = rb then 6 else if b = nb then 7 else T b, rfl,
    ⟨{ F := F, cb := w0.heap.size, wb := w0.heap.size + 1, ab := ab, lb := lb, rb := rb, nb := nb, tv := .slice none 0 0, lv := .slice none 0 0, cf := cf, wv := wv }, ?_⟩, ?_⟩
  · exact {
      fS := hF, f0 := f0, f1 := f1, f2 := f2, f3 := f3, f4 := f4, f5 := f5, f6 := f6, f7 := f7, f14 := f14,
      rC := (h.rC.of_block (E _ (by rw [h.tC]; omega))).congr (fun i hi => by rw [if_pos hi]),
      rW := h.rW.of_block (E _ (by rw [h.tW]; omega)), rA := rA, rL := rL, rR := rR, rN := rN,
      rc := fun i hi => (h.rc i hi).of_block (E _ (by rw [h.tc i hi]; omega)),
      oT := World.ownsRow_nil _ _ _ _, oL := World.ownsRow_nil _ _ _ _,
      oW := fun l hl _ => ownsRow_block (h.oW l hl) fun q hq => E q (by rw [h.tw l hl q hq]; omega),
      tS := by simp, tC := (hT _ (by rw [h.tC]; omega)).trans h.tC, tW := (hT _ (by rw [h.tW]; omega)).trans h.tW,
      tA := by simp [Ne.symm n1], tL := by simp [Ne.symm n2, Ne.symm n5], tR := by simp [Ne.symm n3, Ne.symm n6, Ne.symm n8], tN := by simp [Ne.symm n4, Ne.symm n7, Ne.symm n9, Ne.symm n10],
      tT := fun q hq => by simp [Value.ownBlock] at hq, tM := fun q hq => by simp [Value.ownBlock] at hq,
      tc := fun i hi => (hT _ (by rw [h.tc i hi]; omega)).trans (h.tc i hi),
      tw := fun l hl _ q hq => (hT _ (by rw [h.tw l hl q hq]; omega)).trans (h.tw l hl q hq),
      tz := fun b hb0 => by
        have k1 := hF.lt
        have k2 := rA.lt
        have k3 := rL.lt
        have k4 := rR.lt
        have k5 := rN.lt
        by_cases e1 : b = sb
        · omega
        · by_cases e2 : b = ab
          · omega
          · by_cases e3 : b = lb
            · omega
            · by_cases e4 : b = rb
              · omega
              · by_cases e5 : b = nb
                · omega
                · simp only [if_neg e1, if_neg e2, if_neg e3, if_neg e4, if_neg e5] at hb0
                  have := h.tz b hb0
                  have := hb2.size
                  omega }
  · refine ⟨hb2.os.trans hb.os, hb2.tape.trans hb.tape, hb2.output.trans hb.output, Nat.le_trans hb.size hb2.size, fun b hbs _ => ⟨(hb2.block b (by omega)).trans (hb.block b hbs), ?_⟩⟩
    have h0 : T b = 0 := Classical.byContradiction fun h0 => by have := (h.tz b h0).1; omega
    rw [if_neg (by omega), if_neg (by omega), if_neg (by omega), if_neg (by omega), if_neg (by omega)]
    exact h0

set_option maxRecDepth 100000 in
set_option maxHeartbeats 2000000 in
theorem build_any (D : Nat → Prop) (n m : Nat) (ca : Option Addr) (cc : Nat) (A : Nat → Option Addr) (L C : Nat → Nat) (Z : Nat → Nat → Int) (w : World) (hR : SlR D w ca m A L C Z) (hD : ∀ b, D b → b < w.heap.size) (hf : Form n m L Z) :
    Calls Try.prog 14 #[.int .i64 n, .slice ca m cc] w fun e w' => BuPost n m L Z w e w' := by
  have hn := hf.n1
  have hm := hf.m1
  have hmk1 := run_make_row' (P := Try.prog) 60 53 (.slice none 0 0) 24 Try.underlying60 info53 rfl .i64 .i64 m (by omega) (by omega)
  have hmk2 := run_make_row' (P := Try.prog) 22 23 (.slice none 0 0) 24 Try.underlying22 info23 rfl .i64 .i64 (2 * n) (by omega) (by omega)
  have h2n : ((2 * n : Nat) : Int) = 2 * (n : Int) := by omega
  rw [h2n] at hmk2
  have hr1 := (World.rowIs_made w (.slice none 0 0) m 53).alloc (.cells (madeCells #[.slice none 0 0] (2 * n)) 23)
  have hr2 := World.rowIs_made (w.alloc (.cells (madeCells #[.slice none 0 0] m) 53)) (.slice none 0 0) (2 * n) 23
  have hs1 : (w.alloc (.cells (madeCells #[.slice none 0 0] m) 53)).heap.size = w.heap.size + 1 := by simp
  have hst : BRel n m L Z w m (.int .i64 0) ((w.alloc (.cells (madeCells #[.slice none 0 0] m) 53)).alloc (.cells (madeCells #[.slice none 0 0] (2 * n)) 23)) := by
    refine ⟨0, fun b => if b = w.heap.size then 2 else if b = w.heap.size + 1 then 3 else 0, fun _ => 0, fun _ => .slice none 0 0, by omega, rfl, rfl, ⟨by simpa using hr1, by rw [hs1] at hr2; exact hr2, fun i hi => by omega, fun l hl => World.ownsRow_nil _ _ _ _, by simp, by simp, fun i hi => by omega, fun l hl q hq => by simp [Value.ownBlock] at hq, fun b hb => ?_⟩, ?_⟩
    · have : b = w.heap.size ∨ b = w.heap.size + 1 := by
        by_cases e1 : b = w.heap.size
        · exact .inl e1
        · by_cases e2 : b = w.heap.size + 1
          · exact .inr e2
          · simp [e1, e2] at hb
      simp
      omega
    · exact ((Below.refl _ _).alloc (Nat.le_refl _) _).alloc (by simp) _
  have HR : Hid (∀ wr, Below w.heap.size w wr → SlR D wr ca m A L C Z) := fun wr hb => hR.frame (fun b hb2 => hb.block b (hD b hb2))
  have HS := hide hst
  clear hR hr1 hr2 hs1 hst h2n
  go_enter Try.func14, Try.ntmps14
  go_wp2
  go_loopg [7] m (fun g iv wr => BRel n m L Z w g iv wr)
  case atStart => exact HS.out
  case round =>
    clear HS hmk1 hmk2
    obtain ⟨k, T, cf, wv, hk, hg, rfl, hB, hbel⟩ := hrel
    have Hg := hide hg
    clear hg
    obtain ⟨wo, hwo⟩ : ∃ wo : World, wo = wr := ⟨_, rfl⟩
    subst hwo
    by_cases hlt : k < m
    · obtain ⟨⟨b, o, rfl, hDb, hc⟩, hrw⟩ := HR.out wo hbel k hlt
      have hl2 := hf.l2 k hlt
      have hl3 := hf.l3 k hlt
      have r0 := hf.rng k hlt 0 (by omega)
      have r1 := hf.rng k hlt 1 (by omega)
      obtain ⟨a0, a1⟩ := ng_bound r0.1 r0.2
      obtain ⟨b0, b1⟩ := ng_bound r1.1 r1.2
      have hne : (ng (Z k 0)).toNat ≠ (ng (Z k 1)).toNat := fun e => by
        have e2 : Z k 0 = Z k 1 := ng_inj r0.1 r1.1 (by omega)
        have := hf.inj k hlt 0 1 (by omega) (by omega) (by rw [e2])
        omega
      obtain ⟨rb, ro, hra, hDr, _⟩ := hrw 0 (by omega)
      rw [hra] at hc
      have hsz := hbel.size
      have HC : Hid (∀ wr', Below wo.heap.size wo wr' → ∀ j, j < L k → wr'.cell? ⟨rb, ro + j, none⟩ = some (.int .i32 (Z k j))) := fun wr' hb j hj => by
        obtain ⟨rb', ro', hra', _, hcell⟩ := hrw j hj
        rw [hra] at hra'
        obtain ⟨rfl, rfl⟩ : rb = rb' ∧ ro = ro' := by simpa using hra'
        exact (hb.cell (p := ⟨rb, ro + j, none⟩) (by have := hD rb hDr; simp; omega)).trans hcell
      have hmk := run_make_row' (P := Try.prog) 53 33 (.int .i32 0) 4 Try.underlying53 info33 rfl .i64 .i64 (L k) (by omega) (by omega)
      have hrow0 := World.rowIs_made wo (.int .i32 0) (L k) 33
      have hb0 : Below wo.heap.size wo (wo.alloc (.cells (madeCells #[.int .i32 0] (L k)) 33)) := (Below.refl _ _).alloc (Nat.le_refl _) _
      clear hrw hra
      go_wp2
      go_loopg [10] (L k) (fun g' jv wr' => ∃ j : Nat, j ≤ L k ∧ g' = L k - j ∧ jv = .int .i64 j ∧ wr'.rowIs wo.heap.size 33 (L k) (fun t => .int .i32 (if t < j then Z k t else 0)) ∧ Below wo.heap.size wo wr')
      case atStart => exact ⟨0, by omega, rfl, rfl, by simpa using hrow0, hb0⟩
      case round =>
        clear hrow0 hb0 hmk hc
        obtain ⟨j, hj, hgj, rfl, hrow, hbel2⟩ := hrel
        have Hgj := hide hgj
        clear hgj
        by_cases hlj : j < L k
        · have hcell := HC.out wr hbel2 j hlj
          have co := hrow.cell hlj
          have zo := hrow.frozen j
          have hrn : (wr.setCell ⟨wo.heap.size, j, none⟩ (.int .i32 (Z k j))).rowIs wo.heap.size 33 (L k) (fun t => .int .i32 (if t < j + 1 then Z k t else 0)) :=
            (hrow.set j _).congr (fun t _ => by
              by_cases e : t = j
              · subst e; simp
              · simp only [if_neg e]
                by_cases e2 : t < j
                · rw [if_pos e2, if_pos (by omega)]
                · rw [if_neg e2, if_neg (by omega)])
          go_wp2
          go_roundg (L k - (j + 1))
          case measure => rw [Hgj.out]; omega
          case rel => exact ⟨j + 1, by omega, rfl, by go_num, hrn, hbel2.setCell (by exact Nat.le_refl _) _⟩
        · have hg33 : wr.rowIs wo.heap.size 33 (L k) (fun t => .int .i32 (Z k t)) := hrow.congr (fun t ht => by rw [if_pos (by omega)])
          have hT0 : T wo.heap.size = 0 := Classical.byContradiction fun h0 => by have := (hB.tz _ h0).2; omega
          have hB1 := (hB.frame hbel2.size (fun b hb _ => hbel2.block b hb))
          have hBw : Below w.heap.size w wr := hbel.trans (hbel2.mono hsz)
          have hBsz := hBw.size
          have ccb := hB1.rC.cell hlt
          have zcb := hB1.rC.frozen k
          have hB2 := hB1.addC hg33 hT0 (by omega)
          have hBw2 := hBw.setCell (p := ⟨w.heap.size, k, none⟩) (by exact Nat.le_refl _) (.slice (some ⟨wo.heap.size, 0, none⟩) (L k) (L k))
          clear hrow hg33 hB hbel
          go_upto_region 13 with fail
          have e41a : ∀ w9 : World, Calls Try.prog 41 #[.int .i32 (Z k 0)] w9 fun e w' => e = .returned (.int .i32 (ng (Z k 0))) ∧ w' = w9 := fun w9 => not_any (Z k 0) r0.1 (by omega) w9
          have e41b : ∀ w9 : World, Calls Try.prog 41 #[.int .i32 (Z k 1)] w9 fun e w' => e = .returned (.int .i32 (ng (Z k 1))) ∧ w' = w9 := fun w9 => not_any (Z k 1) r1.1 (by omega) w9
          have H41a := hide e41a
          have H41b := hide e41b
          clear e41a e41b
          have hwr : IntKind.i32.wrap (k : Int) = (k : Int) := wraps_i32 _ (by omega) (by omega)
          obtain ⟨i0, hi0, hz0, hz1, hz2⟩ := info_parts info21
          have wl0 := wtB_len Z k (ng (Z k 0)).toNat
          clear ccb zcb hB1 hBw hT0
          generalize wr.setCell ⟨w.heap.size, k, none⟩ (.slice (some ⟨wo.heap.size, 0, none⟩) (L k) (L k)) = w1 at *
          have c0 := (hB2.rc k (by omega)).cell (i := 0) (by omega)
          rw [up_same] at c0
          obtain ⟨wa0, wc0, hwv0⟩ := ownsRow_len (hB2.oW (ng (Z k 0)).toNat (by omega))
          have cw0 := hB2.rW.cell (i := (ng (Z k 0)).toNat) (by omega)
          rw [hwv0] at cw0
          have hA0 := hB2.alloc (.cells #[.int .i32 (k : Int)] 21)
          have oW0 := hA0.oW (ng (Z k 0)).toNat (by omega)
          rw [hwv0] at oW0
          have Hwv0 := hide hwv0
          have hsz0 := hBw2.size
          clear hwv0
          have kp0 : ∀ w9 : World, (w1.alloc (.cells #[.int .i32 (k : Int)] 21)).grownBy w9 (Value.slice wa0 ((wtB Z k) (ng (Z k 0)).toNat).length wc0).ownBlock → w9.cell? ⟨w.heap.size + 1, (ng (Z k 0)).toNat, none⟩ = some (.slice wa0 ((wtB Z k) (ng (Z k 0)).toNat).length wc0) ∧ w9.frozen? ⟨w.heap.size + 1, (ng (Z k 0)).toNat, none⟩ = false := fun w9 hg => by
            rw [← Hwv0.out] at hg
            have hblk := hg.block (w.heap.size + 1) hA0.rW.lt (fun e => by have e1 := hA0.tw (ng (Z k 0)).toNat (by omega) _ e.symm; rw [hA0.tW] at e1; omega)
            have hr9 := hA0.rW.of_block hblk
            have hc9 := hr9.cell (i := (ng (Z k 0)).toNat) (by omega)
            rw [Hwv0.out] at hc9
            exact ⟨hc9, hr9.frozen _⟩
          have Hkp0 := hide kp0
          clear kp0
          go_wp2_with (first | (go_at_call 41; refine (H41a.out _).mono ?_; rintro e w' ⟨rfl, hw9⟩; have hw8 := hw9.symm; clear hw9; subst hw8) | (at_builtin; refine wpList_append_lies _ rfl (.tmp 58) (.tmp 61) 23 rfl w.heap.size 21 i0 (.int .i32 0) 1 4 Try.underlying23 hi0 hz0 hz1 hz2 rfl (by decide) (.slice wa0 ((wtB Z k) (ng (Z k 0)).toNat).length wc0) ((wtB Z k) (ng (Z k 0)).toNat).length (((wtB Z k) (ng (Z k 0)).toNat).map (Value.int .i32)) (by rfl) (by exact oW0) ⟨w1.heap.size, 0, none⟩ 1 1 [.int .i32 (k : Int)] (by rfl) rfl (World.news_of_block (heap_alloc_new w1 _)) (by simp [Value.oneCell']) (by decide) (by unfold maxLen; omega) (by omega) (by simp; omega) (w1.heap.size + 1) (by simp) ?_))
          intro g cap w9 hown hgrow hat hlt9
          obtain ⟨cn, zn⟩ := Hkp0.out w9 hgrow
          rw [← Hwv0.out] at hgrow hat
          have hB3 := hA0.pushW (ng (Z k 0)).toNat (by omega) (k : Int) hown hgrow (by simpa using hat) hlt9 (by simp; omega)
          have hBw3 : Below w.heap.size w (w9.setCell ⟨w.heap.size + 1, (ng (Z k 0)).toNat, none⟩ (.slice (some ⟨g, 0, none⟩) ((wtB Z k (ng (Z k 0)).toNat).length + 1) cap)) :=
            ((hBw2.alloc hBw2.size _).grown hgrow (by simp; omega) (fun q hq => (hA0.tz q (by rw [hA0.tw _ (by omega) q hq]; omega)).1)).setCell (by exact Nat.le_succ _) _
          clear hown hgrow hat oW0 cw0 hA0 hB2 hBw2 Hkp0 Hwv0 c0
          go_upto_region 15 with fail
          clear cn zn
          generalize w9.setCell ⟨w.heap.size + 1, (ng (Z k 0)).toNat, none⟩ (.slice (some ⟨g, 0, none⟩) ((wtB Z k (ng (Z k 0)).toNat).length + 1) cap) = w2 at *
          have hwl : (up (wtB Z k) (ng (Z k 0)).toNat (wtB Z k (ng (Z k 0)).toNat ++ [(k : Int)]) (ng (Z k 1)).toNat).length ≤ 2 * k + 1 := by
            have := wtB_len Z k (ng (Z k 1)).toNat
            rw [up_ne _ _ (Ne.symm hne)]
            omega
          have c1 := (hB3.rc k (by omega)).cell (i := 1) (by omega)
          rw [up_same] at c1
          obtain ⟨wa1, wc1, hwv1⟩ := ownsRow_len (hB3.oW (ng (Z k 1)).toNat (by omega))
          have cw1 := hB3.rW.cell (i := (ng (Z k 1)).toNat) (by omega)
          rw [hwv1] at cw1
          have hA1 := hB3.alloc (.cells #[.int .i32 (k : Int)] 21)
          have oW1 := hA1.oW (ng (Z k 1)).toNat (by omega)
          rw [hwv1] at oW1
          have Hwv1 := hide hwv1
          have hsz1 := hBw3.size
          clear hwv1
          have kp1 : ∀ w9 : World, (w2.alloc (.cells #[.int .i32 (k : Int)] 21)).grownBy w9 (Value.slice wa1 ((up (wtB Z k) (ng (Z k 0)).toNat (wtB Z k (ng (Z k 0)).toNat ++ [(k : Int)])) (ng (Z k 1)).toNat).length wc1).ownBlock → w9.cell? ⟨w.heap.size + 1, (ng (Z k 1)).toNat, none⟩ = some (.slice wa1 ((up (wtB Z k) (ng (Z k 0)).toNat (wtB Z k (ng (Z k 0)).toNat ++ [(k : Int)])) (ng (Z k 1)).toNat).length wc1) ∧ w9.frozen? ⟨w.heap.size + 1, (ng (Z k 1)).toNat, none⟩ = false := fun w9 hg => by
            rw [← Hwv1.out] at hg
            have hblk := hg.block (w.heap.size + 1) hA1.rW.lt (fun e => by have e1 := hA1.tw (ng (Z k 1)).toNat (by omega) _ e.symm; rw [hA1.tW] at e1; omega)
            have hr9 := hA1.rW.of_block hblk
            have hc9 := hr9.cell (i := (ng (Z k 1)).toNat) (by omega)
            rw [Hwv1.out] at hc9
            exact ⟨hc9, hr9.frozen _⟩
          have Hkp1 := hide kp1
          clear kp1
          go_wp2_with (first | (go_at_call 41; refine (H41b.out _).mono ?_; rintro e w' ⟨rfl, hw9⟩; have hw8 := hw9.symm; clear hw9; subst hw8) | (at_builtin; refine wpList_append_lies _ rfl (.tmp 73) (.tmp 76) 23 rfl w.heap.size 21 i0 (.int .i32 0) 1 4 Try.underlying23 hi0 hz0 hz1 hz2 rfl (by decide) (.slice wa1 ((up (wtB Z k) (ng (Z k 0)).toNat (wtB Z k (ng (Z k 0)).toNat ++ [(k : Int)])) (ng (Z k 1)).toNat).length wc1) ((up (wtB Z k) (ng (Z k 0)).toNat (wtB Z k (ng (Z k 0)).toNat ++ [(k : Int)])) (ng (Z k 1)).toNat).length (((up (wtB Z k) (ng (Z k 0)).toNat (wtB Z k (ng (Z k 0)).toNat ++ [(k : Int)])) (ng (Z k 1)).toNat).map (Value.int .i32)) (by rfl) (by exact oW1) ⟨w2.heap.size, 0, none⟩ 1 1 [.int .i32 (k : Int)] (by rfl) rfl (World.news_of_block (heap_alloc_new w2 _)) (by simp [Value.oneCell']) (by decide) (by unfold maxLen; omega) (by omega) (by simp; omega) (w2.heap.size + 1) (by simp) ?_))
          intro g1 cap1 w8 hown hgrow hat hlt8
          obtain ⟨cn, zn⟩ := Hkp1.out w8 hgrow
          rw [← Hwv1.out] at hgrow hat
          have hB4 := hA1.pushW (ng (Z k 1)).toNat (by omega) (k : Int) hown hgrow (by simpa using hat) hlt8 (by simp; omega)
          have hBw4 : Below w.heap.size w (w8.setCell ⟨w.heap.size + 1, (ng (Z k 1)).toNat, none⟩ (.slice (some ⟨g1, 0, none⟩) ((up (wtB Z k) (ng (Z k 0)).toNat (wtB Z k (ng (Z k 0)).toNat ++ [(k : Int)]) (ng (Z k 1)).toNat).length + 1) cap1)) :=
            ((hBw3.alloc hBw3.size _).grown hgrow (by simp; omega) (fun q hq => (hA1.tz q (by rw [hA1.tw _ (by omega) q hq]; omega)).1)).setCell (by exact Nat.le_succ _) _
          rw [wtB_succ Z k hne] at hB4
          clear hown hgrow hat oW1 cw1 hA1 hB3 hBw3 Hkp1 Hwv1 c1
          go_wp2
          go_roundg (m - (k + 1))
          case measure => rw [Hg.out]; omega
          case rel => exact ⟨k + 1, _, _, _, by omega, rfl, by go_num, hB4, hBw4⟩
    · have hkm : k = m := by omega
      subst hkm
      go_wp2_with fail
      refine (newSolver_any n hn _ _ _ _ _ _ _).mono ?_
      intro e w' hp
      have hfin := repB_done hB hbel hp
      obtain ⟨sb, T', rfl, hfin⟩ := hfin
      clear hp
      go_wp2
      go_ret
      exact ⟨sb, T', rfl, hfin⟩

/-- the solver at its start -/
def St.init (Z : Nat → Nat → Int) (m : Nat) : St := { cl := Z, wt := wtB Z m, av := fun _ => 0, lv := fun _ => 0, rs := fun _ => 0, tr := [], tl := [], qh := 0, sn := fun _ => false }

theorem wtB_mem (Z : Nat → Nat → Int) : ∀ k l c, c ∈ wtB Z k l ↔ ∃ i : Nat, i < k ∧ c = (i : Int) ∧ (l = (ng (Z i 0)).toNat ∨ l = (ng (Z i 1)).toNat)
  | 0, l, c => by simp [wtB]
  | k + 1, l, c => by
    simp only [wtB, List.mem_append, wtB_mem Z k l c]
    constructor
    · rintro ((⟨i, h1, h2, h3⟩ | h) | h)
      · exact ⟨i, by omega, h2, h3⟩
      · split at h
        · rename_i e
          simp only [List.mem_cons, List.not_mem_nil, or_false] at h
          exact ⟨k, by omega, h, .inl e⟩
        · simp at h
      · split at h
        · rename_i e
          simp only [List.mem_cons, List.not_mem_nil, or_false] at h
          exact ⟨k, by omega, h, .inr e⟩
        · simp at h
    · rintro ⟨i, h1, h2, h3⟩
      by_cases e : i = k
      · subst e
        rcases h3 with h3 | h3
        · exact .inl (.inr (by rw [if_pos h3]; simp [h2]))
        · exact .inr (by rw [if_pos h3]; simp [h2])
      · exact .inl (.inl ⟨i, by omega, h2, h3⟩)

theorem wtB_nd {Z : Nat → Nat → Int} : ∀ k, (∀ i, i < k → (ng (Z i 0)).toNat ≠ (ng (Z i 1)).toNat) → ∀ l, (wtB Z k l).Nodup
  | 0, _, l => by simp [wtB]
  | k + 1, h, l => by
    have ih := wtB_nd k (fun i hi => h i (by omega)) l
    have hne := h k (by omega)
    have hnot : (k : Int) ∉ wtB Z k l := fun hm => by
      obtain ⟨i, h1, h2, _⟩ := (wtB_mem Z k l _).1 hm
      omega
    simp only [wtB]
    by_cases e0 : l = (ng (Z k 0)).toNat
    · rw [if_pos e0, if_neg (by omega), List.append_nil, List.nodup_append]
      exact ⟨ih, by simp, fun a ha b hb => by simp only [List.mem_cons, List.not_mem_nil, or_false] at hb; subst hb; rintro rfl; exact hnot ha⟩
    · by_cases e1 : l = (ng (Z k 1)).toNat
      · rw [if_neg e0, if_pos e1, List.append_nil, List.nodup_append]
        exact ⟨ih, by simp, fun a ha b hb => by simp only [List.mem_cons, List.not_mem_nil, or_false] at hb; subst hb; rintro rfl; exact hnot ha⟩
      · rw [if_neg e0, if_neg e1, List.append_nil, List.append_nil]
        exact ih

theorem init_ok {n m : Nat} {len : Nat → Nat} {Z : Nat → Nat → Int} (hf : Form n m len Z) : Base n m len Z (St.init Z m) ∧ WInv n m (St.init Z m) 0 [] := by
  have hne : ∀ i, i < m → (ng (Z i 0)).toNat ≠ (ng (Z i 1)).toNat := fun i hi e => by
    have hl := hf.l2 i hi
    have r0 := hf.rng i hi 0 (by omega)
    have r1 := hf.rng i hi 1 (by omega)
    have a0 := ng_nn r0.1
    have a1 := ng_nn r1.1
    have e2 : Z i 0 = Z i 1 := ng_inj r0.1 r1.1 (by omega)
    have := hf.inj i hi 0 1 (by omega) (by omega) (by rw [e2])
    omega
  refine ⟨⟨⟨fun i hi k hk => ⟨k, hk, rfl⟩, fun i hi k hk => ⟨k, hk, rfl⟩, hf.inj⟩, fun v => by simp [St.init], fun t ht => by simp [St.init] at ht, fun t ht => by simp [St.init] at ht, fun v hv => by simp [St.init] at hv, by simp [St.init], fun k t ht => by simp [St.init] at ht, fun k t ht => by simp [St.init] at ht, by simp [St.init, decs], fun y hy => by simp [St.init] at hy, fun v => rfl, by simp [St.init]⟩, ⟨fun l hl c hc => ?_, fun l hl => wtB_nd m hne l, fun l hl c hc => ?_, fun i hi => ?_, fun i hi => by simp [St.init]⟩⟩
  · obtain ⟨i, h1, h2, _⟩ := (wtB_mem Z m l c).1 hc
    omega
  · obtain ⟨i, h1, h2, h3⟩ := (wtB_mem Z m l c).1 hc
    subst h2
    have hl2 := hf.l2 i h1
    have r0 := hf.rng i h1 0 (by omega)
    have r1 := hf.rng i h1 1 (by omega)
    have a0 := ng_nn r0.1
    have a1 := ng_nn r1.1
    show Z (i : Int).toNat 0 = ng (l : Int) ∨ Z (i : Int).toNat 1 = ng (l : Int)
    simp only [Int.toNat_natCast]
    rcases h3 with h3 | h3
    · left; rw [h3, show (((ng (Z i 0)).toNat : Nat) : Int) = ng (Z i 0) by omega, ng_ng r0.1]
    · right; rw [h3, show (((ng (Z i 1)).toNat : Nat) : Int) = ng (Z i 1) by omega, ng_ng r1.1]
  · exact ⟨(wtB_mem Z m _ _).2 ⟨i, hi, rfl, .inl rfl⟩, (wtB_mem Z m _ _).2 ⟨i, hi, rfl, .inr rfl⟩⟩

end Go.Proofs.Qxb6600345a

import Derived.Test.Qxb6600345aA
namespace Go.Proofs.Qxb6600345a
open Go.RowKit

/-- THE SOLVER's STATE, as plain data. Arrays of a fixed length are functions of the index. -/
structure St where
  cl : Nat → Nat → Int
  wt : Nat → List Int
  av : Nat → Int
  lv : Nat → Int
  rs : Nat → Int
  tr : List Int
  tl : List Int
  qh : Nat
  sn : Nat → Bool

/-- where the parts lie -/
structure Lay where
  F : Nat → Value
  cb : Nat
  wb : Nat
  ab : Nat
  lb : Nat
  rb : Nat
  nb : Nat
  tv : Value
  lv : Value
  cf : Nat → Nat
  wv : Nat → Value

/-- The solver at block sb holds σ; T tells whose each block is (0: nobody's); for the literal x, if any, nothing is said of its watch list's content. -/
structure RepL (n m : Nat) (len : Nat → Nat) (B : Nat) (x : Option Nat) (T : Nat → Nat) (w : World) (sb : Nat) (σ : St) (L : Lay) : Prop where
  fS : w.rowIs sb 73 18 L.F
  f0 : L.F 0 = .slice (some ⟨L.cb, 0, none⟩) m m
  f1 : L.F 1 = .slice (some ⟨L.wb, 0, none⟩) (2 * n) (2 * n)
  f2 : L.F 2 = .slice (some ⟨L.ab, 0, none⟩) n n
  f3 : L.F 3 = .slice (some ⟨L.lb, 0, none⟩) n n
  f4 : L.F 4 = .slice (some ⟨L.rb, 0, none⟩) n n
  f5 : L.F 5 = L.tv
  f6 : L.F 6 = L.lv
  f7 : L.F 7 = .int .i64 σ.qh
  f14 : L.F 14 = .slice (some ⟨L.nb, 0, none⟩) n n
  rC : w.rowIs L.cb 53 m (fun i => .slice (some ⟨L.cf i, 0, none⟩) (len i) (len i))
  rW : w.rowIs L.wb 23 (2 * n) L.wv
  rA : w.rowIs L.ab 63 n (fun v => .int .i8 (σ.av v))
  rL : w.rowIs L.lb 21 n (fun v => .int .i32 (σ.lv v))
  rR : w.rowIs L.rb 21 n (fun v => .int .i32 (σ.rs v))
  rN : w.rowIs L.nb 4 n (fun v => .bool (σ.sn v))
  rc : ∀ i, i < m → w.rowIs (L.cf i) 33 (len i) (fun k => .int .i32 (σ.cl i k))
  oT : w.ownsRow B 33 1 L.tv σ.tr.length (σ.tr.map (Value.int .i32))
  oL : w.ownsRow B 3 1 L.lv σ.tl.length (σ.tl.map (Value.int .i64))
  oW : ∀ l, l < 2 * n → x ≠ some l → w.ownsRow B 21 1 (L.wv l) (σ.wt l).length ((σ.wt l).map (Value.int .i32))
  tS : T sb = 1
  tC : T L.cb = 2
  tW : T L.wb = 3
  tA : T L.ab = 4
  tL : T L.lb = 5
  tR : T L.rb = 6
  tN : T L.nb = 7
  tT : ∀ k, L.tv.ownBlock = some k → T k = 8
  tM : ∀ k, L.lv.ownBlock = some k → T k = 9
  tc : ∀ i, i < m → T (L.cf i) = 10 + 2 * i
  tw : ∀ l, l < 2 * n → x ≠ some l → ∀ k, (L.wv l).ownBlock = some k → T k = 11 + 2 * l
  tz : ∀ b, T b ≠ 0 → B ≤ b ∧ b < w.heap.size

def Rep (n m : Nat) (len : Nat → Nat) (B : Nat) (x : Option Nat) (T : Nat → Nat) (w : World) (sb : Nat) (σ : St) : Prop := ∃ L, RepL n m len B x T w sb σ L

/-- From w to w': blocks that T gives to nobody are as they were, and stay nobody's. -/
structure Grew (T T' : Nat → Nat) (w w' : World) : Prop where
  os : w'.os = w.os
  tape : w'.tape = w.tape
  output : w'.output = w.output
  size : w.heap.size ≤ w'.heap.size
  block : ∀ b, b < w.heap.size → T b = 0 → w'.heap[b]? = w.heap[b]? ∧ T' b = 0

theorem Grew.refl (T : Nat → Nat) (w : World) : Grew T T w w := ⟨rfl, rfl, rfl, Nat.le_refl _, fun _ _ h => ⟨rfl, h⟩⟩
theorem Grew.drewN (T : Nat → Nat) (w : World) (n : Nat) : Grew T T w (w.drewN n) := ⟨rfl, rfl, rfl, Nat.le_refl _, fun _ _ h => ⟨rfl, h⟩⟩
theorem Grew.trans {T T' T'' : Nat → Nat} {w w' w'' : World} (h : Grew T T' w w') (k : Grew T' T'' w' w'') : Grew T T'' w w'' :=
  ⟨k.os.trans h.os, k.tape.trans h.tape, k.output.trans h.output, Nat.le_trans h.size k.size, fun b hb ht =>
    let ⟨h1, h2⟩ := h.block b hb ht
    let ⟨k1, k2⟩ := k.block b (Nat.lt_of_lt_of_le hb h.size) h2
    ⟨k1.trans h1, k2⟩⟩

theorem Grew.below {T T' : Nat → Nat} {w w' : World} {B : Nat} (h : Grew T T' w w') (hB : B ≤ w.heap.size) (hT : ∀ b, b < B → T b = 0) : Below B w w' :=
  ⟨h.os, h.tape, h.output, h.size, fun k hk => (h.block k (by omega) (hT k hk)).1⟩

theorem ownsRow_block {w w' : World} {B e sz : Nat} {v : Value} {n : Nat} {xs : List Value} (h : w.ownsRow B e sz v n xs) (hb : ∀ k, v.ownBlock = some k → w'.heap[k]? = w.heap[k]?) : w'.ownsRow B e sz v n xs := by
  refine ⟨h.1, ?_⟩
  rcases h.2 with hn | ⟨g, cap, cur, rfl, hB, hg, rest⟩
  · exact .inl hn
  · exact .inr ⟨g, cap, cur, rfl, hB, (hb g rfl).trans hg, rest⟩

/-- What touches none of the solver's blocks leaves it. -/
theorem RepL.frame {n m B sb : Nat} {len : Nat → Nat} {x : Option Nat} {T : Nat → Nat} {w w' : World} {σ : St} {L : Lay} (h : RepL n m len B x T w sb σ L) (hs : w.heap.size ≤ w'.heap.size)
    (e : ∀ b, b < w.heap.size → T b ≠ 0 → w'.heap[b]? = w.heap[b]?) : RepL n m len B x T w' sb σ L := by
  have E : ∀ b, T b ≠ 0 → w'.heap[b]? = w.heap[b]? := fun b hb => e b (h.tz b hb).2 hb
  exact { h with
    fS := h.fS.of_block (E _ (by rw [h.tS]; decide)), rC := h.rC.of_block (E _ (by rw [h.tC]; decide)), rW := h.rW.of_block (E _ (by rw [h.tW]; decide)), rA := h.rA.of_block (E _ (by rw [h.tA]; decide)),
    rL := h.rL.of_block (E _ (by rw [h.tL]; decide)), rR := h.rR.of_block (E _ (by rw [h.tR]; decide)), rN := h.rN.of_block (E _ (by rw [h.tN]; decide)),
    rc := fun i hi => (h.rc i hi).of_block (E _ (by rw [h.tc i hi]; omega)),
    oT := ownsRow_block h.oT fun k hk => E k (by rw [h.tT k hk]; decide), oL := ownsRow_block h.oL fun k hk => E k (by rw [h.tM k hk]; decide),
    oW := fun l hl hx => ownsRow_block (h.oW l hl hx) fun k hk => E k (by rw [h.tw l hl hx k hk]; omega),
    tz := fun b hb => ⟨(h.tz b hb).1, Nat.lt_of_lt_of_le (h.tz b hb).2 hs⟩ }

/-- A world with the same memory. -/
theorem RepL.heap {n m B sb : Nat} {len : Nat → Nat} {x : Option Nat} {T : Nat → Nat} {w w' : World} {σ : St} {L : Lay} (h : RepL n m len B x T w sb σ L) (e : w'.heap = w.heap) : RepL n m len B x T w' sb σ L :=
  h.frame (by rw [e]; exact Nat.le_refl _) fun _ _ _ => by rw [e]

theorem Rep.heap {n m B sb : Nat} {len : Nat → Nat} {x : Option Nat} {T : Nat → Nat} {w w' : World} {σ : St} (h : Rep n m len B x T w sb σ) (e : w'.heap = w.heap) : Rep n m len B x T w' sb σ := by
  obtain ⟨L, hL⟩ := h
  exact ⟨L, hL.heap e⟩

theorem RepL.alloc {n m B sb : Nat} {len : Nat → Nat} {x : Option Nat} {T : Nat → Nat} {w : World} {σ : St} {L : Lay} (h : RepL n m len B x T w sb σ L) (o : Obj) : RepL n m len B x T (w.alloc o) sb σ L :=
  h.frame (by simp) fun b hb _ => Below.heap_alloc w o b hb

theorem Grew.alloc (T : Nat → Nat) (w : World) (o : Obj) : Grew T T w (w.alloc o) := ⟨rfl, rfl, rfl, by simp, fun b hb h => ⟨Below.heap_alloc w o b hb, h⟩⟩

/-- litValue, at the solver's state -/
theorem litValue_rep {n m B sb : Nat} {len : Nat → Nat} {x : Option Nat} {T : Nat → Nat} {w : World} {σ : St} (h : Rep n m len B x T w sb σ) (l : Int) (hl : 0 ≤ l) (hl2 : l < 2 * (n : Int)) (hn : n ≤ 4096) (hx : 0 ≤ σ.av (vr l) ∧ σ.av (vr l) ≤ 2) :
    Calls Try.prog 43 #[.pointer (some ⟨sb, 0, none⟩), .int .i32 l] w fun e w' => e = .returned (.int .i8 (lx (σ.av (vr l)) l)) ∧ ∃ n, w' = w.drewN n := by
  obtain ⟨L, h⟩ := h
  have h2 := h.fS.cell (i := 2) (by decide)
  rw [h.f2] at h2
  have h3 := h.rA.cell (i := vr l) (by unfold vr; omega)
  exact litValue_cell sb L.ab l _ w n n hl (by omega) (by omega) hx.1 hx.2 h2 h3

end Go.Proofs.Qxb6600345a

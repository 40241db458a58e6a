import Derived.Test.Qxb6600345aJ
/-! 'naiveClose': unit propagation, clause by clause, till nothing changes. -/
namespace Go.Proofs.Qxb6600345a
open Go.RowKit
set_option linter.unusedVariables false
set_option linter.unusedSimpArgs false

/-! ### The plain part -/

/-- every clause has a true literal, or two that are not false -/
def Below2 (A b : Nat → Int) : Prop := ∀ v, A v ≠ 0 → b v = A v

/-- how many are unset -/
def unset : Nat → (Nat → Int) → Nat
  | 0, _ => 0
  | n + 1, A => unset n A + if A n = 0 then 1 else 0

theorem unset_le : ∀ n A, unset n A ≤ n
  | 0, _ => Nat.le_refl _
  | n + 1, A => by have := unset_le n A; simp only [unset]; split <;> omega

theorem unset_congr {A b : Nat → Int} : ∀ n, (∀ v, v < n → A v = b v) → unset n A = unset n b
  | 0, _ => rfl
  | n + 1, h => by simp only [unset]; rw [unset_congr n (fun v hv => h v (by omega)), h n (by omega)]

theorem unset_up {A : Nat → Int} {v : Nat} {x : Int} (hx : x ≠ 0) : ∀ n, v < n → A v = 0 → unset n (up A v x) < unset n A
  | 0, h, _ => by omega
  | n + 1, h, h0 => by
    simp only [unset]
    by_cases e : v = n
    · subst e
      rw [unset_congr (b := A) v (fun u hu => up_ne _ _ (by omega)), up_same, if_neg hx, if_pos h0]
      omega
    · have := unset_up hx n (by omega) h0
      rw [up_ne _ _ (Ne.symm e)]
      omega

structure NC (m : Nat) (len : Nat → Nat) (cl0 : Nat → Nat → Int) (A A' : Nat → Int) : Prop where
  vals : Vals A'
  ext : Below2 A A'
  least : ∀ b, Vals b → Closed m len cl0 b → Below2 A b → Below2 A' b

theorem NC.refl {m : Nat} {len : Nat → Nat} {cl0 : Nat → Nat → Int} {A : Nat → Int} (h : Vals A) : NC m len cl0 A A := ⟨h, fun _ _ => rfl, fun _ _ _ h => h⟩

theorem lval_below {A b : Nat → Int} (hA : Vals A) (h : Below2 A b) {l : Int} (hl : lval A l ≠ 0) : lval b l = lval A l := by
  unfold lval
  rw [h]
  exact fun e => hl ((lval_zero hA).2 e)

/-- a unit clause's last literal is forced -/
theorem NC.unit {n m : Nat} {len : Nat → Nat} {cl0 : Nat → Nat → Int} {A A' : Nat → Int} (hf : Form n m len cl0) (h : NC m len cl0 A A') {i p : Nat} (hi : i < m) (hp : p < len i) (hz : lval A' (cl0 i p) = 0) (hall : ∀ j, j < len i → j ≠ p → lval A' (cl0 i j) = 2) :
    NC m len cl0 A (up A' (vr (cl0 i p)) (tval (cl0 i p))) := by
  have h0 : A' (vr (cl0 i p)) = 0 := (lval_zero h.vals).1 hz
  refine ⟨vals_up h.vals _, fun v hv => ?_, fun b hb hc hA => ?_⟩
  · have e := h.ext v hv
    rw [up_ne _ _ (by rintro rfl; rw [h0] at e; exact hv e.symm)]
    exact e
  · have hl := h.least b hb hc hA
    have hfalse : ∀ j, j < len i → j ≠ p → lval b (cl0 i j) = 2 := fun j hj hne => by
      rw [lval_below h.vals hl (by rw [hall j hj hne]; decide), hall j hj hne]
    have htrue : lval b (cl0 i p) = 1 := by
      rcases hc i hi with ⟨k, hk, h1⟩ | ⟨j, k, hj, hk, hne, h1, h2⟩
      · by_cases e : k = p
        · rw [← e]; exact h1
        · have := hfalse k hk e; omega
      · exfalso
        by_cases e : j = p
        · exact h2 (hfalse k hk (by omega))
        · exact h1 (hfalse j hj e)
    intro v hv
    by_cases e : v = vr (cl0 i p)
    · subst e
      rw [up_same]
      have hr := hf.rng i hi p hp
      unfold lval lx at htrue
      unfold tval
      have := hb (vr (cl0 i p))
      split at htrue <;> omega
    · rw [up_ne _ _ e] at hv ⊢
      exact hl v hv

/-- what is known of a clause's first k literals -/
structure Scan (A : Nat → Int) (z : Nat → Int) (k u : Nat) (l : Int) : Prop where
  notrue : ∀ j, j < k → lval A (z j) ≠ 1
  le : u ≤ k
  none : u = 0 → ∀ j, j < k → lval A (z j) = 2
  one : u = 1 → ∃ p, p < k ∧ z p = l ∧ lval A (z p) = 0 ∧ ∀ j, j < k → j ≠ p → lval A (z j) = 2
  two : 2 ≤ u → ∃ i j, i < k ∧ j < k ∧ i ≠ j ∧ lval A (z i) = 0 ∧ lval A (z j) = 0

theorem Scan.start (A z : Nat → Int) : Scan A z 0 0 0 := ⟨fun j h => by omega, Nat.le_refl _, fun _ j h => by omega, fun h => by omega, fun h => by omega⟩

theorem Scan.skip {A z : Nat → Int} {k u : Nat} {l : Int} (h : Scan A z k u l) (hk : lval A (z k) = 2) : Scan A z (k + 1) u l := by
  refine ⟨fun j hj => ?_, by have := h.le; omega, fun hu j hj => ?_, fun hu => ?_, fun hu => ?_⟩
  · by_cases e : j = k
    · subst e; omega
    · exact h.notrue j (by omega)
  · by_cases e : j = k
    · subst e; exact hk
    · exact h.none hu j (by omega)
  · obtain ⟨p, h1, h2, h3, h4⟩ := h.one hu
    refine ⟨p, by omega, h2, h3, fun j hj hne => ?_⟩
    by_cases e : j = k
    · subst e; exact hk
    · exact h4 j (by omega) hne
  · obtain ⟨i, j, h1, h2, h3⟩ := h.two hu
    exact ⟨i, j, by omega, by omega, h3⟩

theorem Scan.more {A z : Nat → Int} {k u : Nat} {l : Int} (h : Scan A z k u l) (hk : lval A (z k) = 0) : Scan A z (k + 1) (u + 1) (z k) := by
  refine ⟨fun j hj => ?_, by have := h.le; omega, fun hu => by omega, fun hu => ?_, fun hu => ?_⟩
  · by_cases e : j = k
    · subst e; omega
    · exact h.notrue j (by omega)
  · refine ⟨k, by omega, rfl, hk, fun j hj hne => h.none (by omega) j (by omega)⟩
  · by_cases h2 : 2 ≤ u
    · obtain ⟨i, j, h1, h2, h3⟩ := h.two h2
      exact ⟨i, j, by omega, by omega, h3⟩
    · obtain ⟨p, h1, _, h3, _⟩ := h.one (by omega)
      exact ⟨p, k, by omega, by omega, by omega, h3, hk⟩

/-- closed as far as clause c -/
def ClosedTo (c : Nat) (len : Nat → Nat) (cl0 : Nat → Nat → Int) (A : Nat → Int) : Prop :=
  ∀ i, i < c → (∃ k, k < len i ∧ lval A (cl0 i k) = 1) ∨ (∃ j k, j < len i ∧ k < len i ∧ j ≠ k ∧ lval A (cl0 i j) ≠ 2 ∧ lval A (cl0 i k) ≠ 2)

theorem ClosedTo.snoc {c : Nat} {len : Nat → Nat} {cl0 : Nat → Nat → Int} {A : Nat → Int} (h : ClosedTo c len cl0 A) (hc : (∃ k, k < len c ∧ lval A (cl0 c k) = 1) ∨ (∃ j k, j < len c ∧ k < len c ∧ j ≠ k ∧ lval A (cl0 c j) ≠ 2 ∧ lval A (cl0 c k) ≠ 2)) : ClosedTo (c + 1) len cl0 A := fun i hi => by
  by_cases e : i = c
  · subst e; exact hc
  · exact h i (by omega)

/-! ### The walks -/

set_option maxHeartbeats 400000 in
theorem trueValue_any (l : Int) (h0 : 0 ≤ l) (h1 : l < 2147483648) (w : World) :
    Calls Try.prog 16 #[.int .i32 l] w fun e w' => e = .returned (.int .i8 (tval l)) ∧ w' = w := by
  have hb := bits_and_one l h0 h1
  have hp : l % 2 = 0 ∨ l % 2 = 1 := by omega
  rcases hp with hp | hp
  · go_enter Try.func16, Try.ntmps16
    go_wp2
    go_ret
    exact ⟨ret_int (by unfold tval; omega), rfl⟩
  · go_enter Try.func16, Try.ntmps16
    go_wp2
    go_ret
    exact ⟨ret_int (by unfold tval; omega), rfl⟩

set_option maxHeartbeats 400000 in
theorem litVal_any (mb n c : Nat) (A : Nat → Int) (l : Int) (w : World) (hl : 0 ≤ l) (hl2 : l < 2 * (n : Int)) (hn : n ≤ 4096) (hA : Vals A) (hr : w.rowIs mb 31 n (fun v => .int .i8 (A v))) :
    Calls Try.prog 44 #[.slice (some ⟨mb, 0, none⟩) n c, .int .i32 l] w fun e w' => e = .returned (.int .i8 (lval A l)) ∧ w' = w := by
  have hb := bits_and_one l hl (by omega)
  have hx := hA (vr l)
  have hc : w.cell? ⟨mb, (l / 2).toNat, none⟩ = some (.int .i8 (A (vr l))) := hr.cell (i := (l / 2).toNat) (by omega)
  have hi1 : (0 : Int) ≤ l / 2 := by omega
  have hi2 : l / 2 < (n : Int) := by omega
  have hlv : lval A l = lx (A (vr l)) l := rfl
  rw [hlv]
  clear hlv
  generalize A (vr l) = x at *
  go_enter Try.func44, Try.ntmps44
  go_wp2
  all_goals go_ret
  · exact ⟨ret_int (by simp_all [lx]), rfl⟩
  · refine ⟨ret_int ?_, rfl⟩
    have h1 : (x == 0) = true ∨ (l % 2 == 0) = true := by assumption
    simp only [beq_iff_eq] at h1
    simp [lx, h1]
  · refine ⟨ret_int ?_, rfl⟩
    have h1 : (x == 0) = false ∧ (l % 2 == 0) = false := by assumption
    simp only [beq_eq_false_iff_ne, ne_eq] at h1
    simp only [lx, h1, or_self, if_false]

/-- all but block mb is as it was -/
structure SameBut (mb : Nat) (w w' : World) : Prop where
  os : w'.os = w.os
  tape : w'.tape = w.tape
  output : w'.output = w.output
  size : w'.heap.size = w.heap.size
  block : ∀ b, b ≠ mb → w'.heap[b]? = w.heap[b]?

theorem SameBut.refl (mb : Nat) (w : World) : SameBut mb w w := ⟨rfl, rfl, rfl, rfl, fun _ _ => rfl⟩
theorem SameBut.set {mb : Nat} {w w' : World} (h : SameBut mb w w') (o : Nat) (v : Value) : SameBut mb w (w'.setCell ⟨mb, o, none⟩ v) :=
  ⟨h.os, h.tape, h.output, by rw [← h.size]; simp [World.setCell], fun b hb => (Below.heap_setCell _ _ _ _ (by exact hb)).trans (h.block b hb)⟩

def NaPost (n m : Nat) (len : Nat → Nat) (cl0 : Nat → Nat → Int) (mb : Nat) (A : Nat → Int) (w : World) (e : Ending) (w' : World) : Prop :=
  ∃ r A', e = .returned (.bool r) ∧ NC m len cl0 A A' ∧ w'.rowIs mb 31 n (fun v => .int .i8 (A' v)) ∧ SameBut mb w w' ∧ (r = true → ∃ i, i < m ∧ ∀ k, k < len i → lval A' (cl0 i k) = 2) ∧ (r = false → Closed m len cl0 A')

def NaOut (n m : Nat) (len : Nat → Nat) (cl0 : Nat → Nat → Int) (mb : Nat) (A : Nat → Int) (w : World) (g : Nat) (wr : World) : Prop :=
  ∃ A', g = unset n A' ∧ NC m len cl0 A A' ∧ wr.rowIs mb 31 n (fun v => .int .i8 (A' v)) ∧ SameBut mb w wr

def NaMid (n m : Nat) (len : Nat → Nat) (cl0 : Nat → Nat → Int) (mb : Nat) (A A0 : Nat → Int) (w : World) (g : Nat) (ch iv : Value) (wr : World) : Prop :=
  ∃ (A' : Nat → Int) (c : Nat) (f : Bool), c ≤ m ∧ g = m - c ∧ ch = .bool f ∧ iv = .int .i64 c ∧ NC m len cl0 A A' ∧ wr.rowIs mb 31 n (fun v => .int .i8 (A' v)) ∧ SameBut mb w wr ∧ (f = true → unset n A' < unset n A0) ∧ (f = false → A' = A0 ∧ ClosedTo c len cl0 A')

set_option maxRecDepth 100000 in
set_option maxHeartbeats 2000000 in
theorem naiveClose_any (D : Nat → Prop) (n m mb : Nat) (ca : Option Addr) (cc : Nat) (Ad : Nat → Option Addr) (L C : Nat → Nat) (Z : Nat → Nat → Int) (A : Nat → Int) (w : World) (hR : SlR D w ca m Ad L C Z) (hD : ∀ b, D b → b ≠ mb) (hf : Form n m L Z) (hA : Vals A)
    (hr : w.rowIs mb 31 n (fun v => .int .i8 (A v))) :
    Calls Try.prog 17 #[.slice (some ⟨mb, 0, none⟩) n n, .slice ca m cc] w fun e w' => NaPost n m L Z mb A w e w' := by
  have hn := hf.n1
  have hm := hf.m1
  have HR : Hid (∀ wr, SameBut mb w wr → SlR D wr ca m Ad L C Z) := fun wr hb => hR.frame (fun b hb2 => hb.block b (hD b hb2))
  have HS : Hid (NaOut n m L Z mb A w (unset n A) w) := ⟨A, rfl, NC.refl hA, hr, SameBut.refl _ _⟩
  clear hR hr
  go_enter Try.func17, Try.ntmps17
  go_wp2
  go_loopg [4] (unset n A) (fun g t wr => NaOut n m L Z mb A w g wr)
  case atStart => exact HS.out
  case round =>
    clear HS
    obtain ⟨A0, hg, hnc0, hrow0, hsb0⟩ := hrel
    have Hg := hide hg
    have hst : NaMid n m L Z mb A A0 w m (.bool false) (.int .i64 0) wr := ⟨A0, 0, false, by omega, rfl, rfl, rfl, hnc0, hrow0, hsb0, fun h => by (cases h), fun _ => ⟨rfl, fun i hi => by omega⟩⟩
    clear hg hnc0 hrow0 hsb0
    obtain ⟨wo, hwo⟩ : ∃ wo : World, wo = wr := ⟨_, rfl⟩
    subst hwo
    go_wp2
    go_loopg [5, 6] m (fun g ch iv wr' => NaMid n m L Z mb A A0 w g ch iv wr')
    case atStart => exact hst
    case round =>
      clear hst
      obtain ⟨A', c, f, hc, hgc, rfl, rfl, hnc, hrow, hsb, hf1, hf2⟩ := hrel
      have Hgc := hide hgc
      have Hf1 := hide hf1
      have Hf2 := hide hf2
      clear hgc hf1 hf2
      by_cases hlt : c < m
      · obtain ⟨⟨b, o, rfl, hDb, hcell⟩, hrw⟩ := HR.out wr hsb c hlt
        have hl2 := hf.l2 c hlt
        have hl3 := hf.l3 c hlt
        obtain ⟨rb, ro, hra, hDr, _⟩ := hrw 0 (by omega)
        rw [hra] at hcell
        have HC : Hid (∀ j, j < L c → wr.cell? ⟨rb, ro + j, none⟩ = some (.int .i32 (Z c j))) := fun j hj => by
          obtain ⟨rb', ro', hra', _, hcell⟩ := hrw j hj
          rw [hra] at hra'
          obtain ⟨rfl, rfl⟩ : rb = rb' ∧ ro = ro' := by simpa using hra'
          exact hcell
        clear hrw hra
        obtain ⟨wm, hwm⟩ : ∃ wm : World, wm = wr := ⟨_, rfl⟩
        subst hwm
        go_wp2
        go_loopg [8, 9, 10, 11] (L c) (fun g sv uv lv kv wr' => ∃ (k u : Nat) (l : Int), g = L c - k ∧ sv = .bool false ∧ uv = .int .i64 u ∧ lv = .int .i32 l ∧ kv = .int .i64 k ∧ k ≤ L c ∧ wr' = wm ∧ Scan A' (Z c) k u l)
        case atStart => exact ⟨0, 0, 0, rfl, rfl, rfl, rfl, rfl, by omega, rfl, Scan.start _ _⟩
        case round =>
          clear hcell
          obtain ⟨k, u, l, hgk, rfl, rfl, rfl, rfl, hk, hwq, hscan⟩ := hrel
          have hwq2 := hwq.symm
          clear hwq
          subst hwq2
          have Hgk := hide hgk
          clear hgk
          have hule := hscan.le
          by_cases hlk : k < L c
          · have hck := HC.out k hlk
            have hz := hf.rng c hlt k hlk
            have hv := lval_rng hnc.vals (Z c k)
            by_cases h1 : lval A' (Z c k) = 1
            · have h1b : (lval A' (Z c k) == 1) = true := by simp [h1]
              have H1 := hide h1
              clear h1 hv
              go_wp2_with (first | (go_at_call 44; refine (litVal_any mb n n A' (Z c k) _ hz.1 hz.2 hn hnc.vals hrow).mono ?_; rintro e w' ⟨rfl, hw9⟩; have hw8 := hw9.symm; clear hw9; subst hw8))
              go_roundg (m - (c + 1))
              case measure => rw [Hgc.out]; omega
              case rel => exact ⟨A', c + 1, f, by omega, rfl, rfl, by go_num, hnc, hrow, hsb, Hf1.out, fun h => ⟨(Hf2.out h).1, (Hf2.out h).2.snoc (.inl ⟨k, hlk, H1.out⟩)⟩⟩
            · by_cases h0 : lval A' (Z c k) = 0
              · have h1b : (lval A' (Z c k) == 1) = false := by simp [h1]
                have h0b : (lval A' (Z c k) == 0) = true := by simp [h0]
                have hnext := hscan.more h0
                clear h1 h0 hv
                go_wp2_with (first | (go_at_call 44; refine (litVal_any mb n n A' (Z c k) _ hz.1 hz.2 hn hnc.vals hrow).mono ?_; rintro e w' ⟨rfl, hw9⟩; have hw8 := hw9.symm; clear hw9; subst hw8))
                go_roundg (L c - (k + 1))
                case measure => rw [Hgk.out]; omega
                case rel => exact ⟨k + 1, u + 1, _, rfl, rfl, by go_num, rfl, by go_num, by omega, rfl, hnext⟩
              · have h1b : (lval A' (Z c k) == 1) = false := by simp [h1]
                have h0b : (lval A' (Z c k) == 0) = false := by simp [h0]
                have hnext := hscan.skip (by omega)
                clear h1 h0 hv
                go_wp2_with (first | (go_at_call 44; refine (litVal_any mb n n A' (Z c k) _ hz.1 hz.2 hn hnc.vals hrow).mono ?_; rintro e w' ⟨rfl, hw9⟩; have hw8 := hw9.symm; clear hw9; subst hw8))
                go_roundg (L c - (k + 1))
                case measure => rw [Hgk.out]; omega
                case rel => exact ⟨k + 1, u, _, rfl, rfl, rfl, rfl, by go_num, by omega, rfl, hnext⟩
          · obtain rfl : k = L c := by omega
            by_cases hu0 : u = 0
            · subst hu0
              have hno := hscan.none rfl
              have Hno := hide hno
              clear hno hscan
              go_wp2
              go_ret
              exact ⟨true, A', rfl, hnc, hrow, hsb, fun _ => ⟨c, hlt, Hno.out⟩, fun h => by (cases h)⟩
            · by_cases hu1 : u = 1
              · subst hu1
                obtain ⟨q, hq, rfl, hqz, hqa⟩ := hscan.one rfl
                have hz := hf.rng c hlt q hq
                have hvq : vr (Z c q) < n := by unfold vr; omega
                have hnn := hnc.unit hf hlt hq hqz hqa
                have hun : unset n (up A' (vr (Z c q)) (tval (Z c q))) < unset n A' := unset_up (by unfold tval; omega) n hvq ((lval_zero hnc.vals).1 hqz)
                have hrn : (wm.setCell ⟨mb, (Z c q / 2).toNat, none⟩ (.int .i8 (tval (Z c q)))).rowIs mb 31 n (fun v => .int .i8 (up A' (vr (Z c q)) (tval (Z c q)) v)) :=
                  (hrow.set _ _).congr (fun j _ => by by_cases e : j = (Z c q / 2).toNat <;> simp [up, vr, e])
                have hsn := hsb.set (Z c q / 2).toNat (.int .i8 (tval (Z c q)))
                have cm : wm.cell? ⟨mb, (Z c q / 2).toNat, none⟩ = some (.int .i8 (A' (vr (Z c q)))) := hrow.cell hvq
                have zm := hrow.frozen (Z c q / 2).toNat
                have hi1 : (0 : Int) ≤ Z c q / 2 := by omega
                have hi2 : Z c q / 2 < (n : Int) := by omega
                have hle : unset n A' ≤ unset n A0 := by
                  cases f with
                  | true => have := Hf1.out rfl; omega
                  | false => rw [(Hf2.out rfl).1]; exact Nat.le_refl _
                have Hqz := hide hqz
                clear hscan hqz hqa hu0
                go_wp2_with (first | (go_at_call 16; refine (trueValue_any (Z c q) hz.1 (by omega) _).mono ?_; rintro e w' ⟨rfl, hw9⟩; have hw8 := hw9.symm; clear hw9; subst hw8))
                go_roundg (m - (c + 1))
                case measure => rw [Hgc.out]; omega
                case rel => exact ⟨_, c + 1, true, by omega, rfl, rfl, by go_num, hnn, hrn, hsn, fun _ => by omega, fun h => by (cases h)⟩
              · have hu0b : ((u : Int) == 0) = false := by simp; omega
                have hu1b : ((u : Int) == 1) = false := by simp; omega
                obtain ⟨x1, x2, y1, y2, y3, y4, y5⟩ := hscan.two (by omega)
                clear hscan
                go_wp2
                go_roundg (m - (c + 1))
                case measure => rw [Hgc.out]; omega
                case rel => exact ⟨A', c + 1, f, by omega, rfl, rfl, by go_num, hnc, hrow, hsb, Hf1.out, fun h => ⟨(Hf2.out h).1, (Hf2.out h).2.snoc (.inr ⟨x1, x2, y1, y2, y3, by rw [y4]; decide, by rw [y5]; decide⟩)⟩⟩
      · cases f with
        | false =>
          have H2 := hide (Hf2.out rfl).2
          go_wp2
          go_ret
          exact ⟨false, A', rfl, hnc, hrow, hsb, fun h => by (cases h), fun _ i hi => H2.out i (by omega)⟩
        | true =>
          have hun := Hf1.out rfl
          go_wp2
          go_roundg (unset n A')
          case measure => rw [Hg.out]; exact hun
          case rel => exact ⟨A', rfl, hnc, hrow, hsb⟩
end Go.Proofs.Qxb6600345a

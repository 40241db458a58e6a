import Derived.Test.Qxb6600345aA1
import Derived.Test.Qxb6600345aL8
/-! 'reachFrom', at one seed. -/
namespace Go.Proofs.Qxb6600345a
open Go.RowKit
set_option linter.unusedVariables false
set_option linter.unusedSimpArgs false

/-- the search's stack, in a row of its own -/
structure Stk (B0 vb : Nat) (w : World) (v : Value) (st : List Nat) : Prop where
  own : w.ownsRow B0 3 1 v st.length (st.map (fun x : Nat => Value.int .i64 (x : Int)))
  ne : ∀ k, v.ownBlock = some k → k ≠ vb

theorem Stk.frame {B0 vb : Nat} {w w' : World} {v : Value} {st : List Nat} (h : Stk B0 vb w v st) (e : ∀ b, b ≠ vb → b < w.heap.size → w'.heap[b]? = w.heap[b]?) : Stk B0 vb w' v st :=
  ⟨ownsRow_block h.own fun k hk => e k (h.ne k hk) (h.own.lt k hk).2, h.ne⟩

theorem Stk.pop {B0 vb : Nat} {w : World} {v : Value} {st : List Nat} {x : Nat} (h : Stk B0 vb w v (st ++ [x])) :
    ∃ g cap, v = .slice (some ⟨g, 0, none⟩) (st.length + 1) cap ∧ st.length + 1 ≤ cap ∧ w.cell? ⟨g, st.length, none⟩ = some (.int .i64 (x : Int)) ∧ Stk B0 vb w (.slice (some ⟨g, 0, none⟩) st.length cap) st := by
  have ho := h.own
  rw [List.length_append, List.length_singleton] at ho
  rcases ho.2 with ⟨_, h0⟩ | ⟨g, cap, cur, hv, hB, hg, hl, hc, hs, ht⟩
  · omega
  · refine ⟨g, cap, hv, hl, ?_, ⟨by simp, .inr ⟨g, cap, cur, rfl, hB, hg, by omega, hc, hs, ?_⟩⟩, ?_⟩
    · have := h.own.cells (g := g) (by rw [hv]; rfl) st.length (.int .i64 (x : Int)) (by simp)
      rw [Addr.add_lit] at this
      simpa using this
    · have h1 : (cur.toList.take ((st.length + 1) * 1)).take (st.length * 1) = cur.toList.take (st.length * 1) := by
        rw [List.take_take]
        congr 1
        omega
      rw [← h1, ht]
      simp
    · intro k hk
      exact h.ne k (by rw [hv]; exact hk)

theorem Stk.gen {B0 vb : Nat} {w : World} {v : Value} {ys : List Nat} (h : Stk B0 vb w v ys) : ∃ st, Hid (st = ys) ∧ Stk B0 vb w v st := ⟨ys, hide rfl, h⟩

theorem Stk.pushed {B0 vb n : Nat} {w w5 : World} {v : Value} {st : List Nat} {o : Obj} {g cap x : Nat} (h : Stk B0 vb w v st) (hvb : vb < w.heap.size) (hown : w5.ownsRow B0 3 1 (.slice (some ⟨g, 0, none⟩) (st.length + 1) cap) (st.length + 1) (st.map (fun x : Nat => Value.int .i64 (x : Int)) ++ [.int .i64 (x : Int)]))
    (hgrow : (w.alloc o).grownBy w5 v.ownBlock) (hat : v.ownBlock = some g ∨ g = w.heap.size + 1) : Stk B0 vb w5 (.slice (some ⟨g, 0, none⟩) (st.length + 1) cap) (st ++ [x]) ∧ (∀ f, w.rowIs vb 4 n f → w5.rowIs vb 4 n f) ∧ (∀ a, Below B0 a w → B0 ≤ w.heap.size → Below B0 a w5) := by
  refine ⟨⟨by simpa using hown, fun k hk => ?_⟩, fun f hr => ?_, fun a hb hB => ?_⟩
  · obtain rfl : g = k := by simpa [Value.ownBlock] using hk
    rcases hat with e | e
    · exact h.ne g e
    · omega
  · exact (hr.alloc o).of_block (hgrow.block vb (by simp; omega) (fun e => h.ne vb e.symm rfl))
  · exact (hb.alloc hB o).grown hgrow (by simp; omega) (fun k hk => (h.own.lt k hk).1)

def RFSeed (n : Nat) (lv : Nat → Int) (v0 : Nat) (w : World) (vb : Nat) (g : Nat) (sv iv : Value) (wr : World) : Prop :=
  ∃ (i : Nat) (st : List Nat), i ≤ 1 ∧ g = 1 - i ∧ iv = .int .i64 i ∧ Stk w.heap.size vb wr sv st ∧ wr.rowIs vb 4 n (fun _ => .bool false) ∧ Below w.heap.size w wr ∧ (i = 0 → st = []) ∧ (i = 1 → st = if 1 ≤ lv v0 then [v0] else [])

def RFPost (n m : Nat) (L : Nat → Nat) (Z : Nat → Nat → Int) (lv rs : Nat → Int) (v0 : Nat) (w : World) (e : Ending) (w' : World) : Prop :=
  ∃ (vb : Nat) (vis : Nat → Bool), e = .returned (.slice (some ⟨vb, 0, none⟩) n n) ∧ w'.rowIs vb 4 n (fun v => .bool (vis v)) ∧ (∀ v, vis v = true ↔ Rch m L Z lv rs v0 v) ∧ w.heap.size ≤ vb ∧ Below w.heap.size w w'

/-- the measure -/
def RFM (n : Nat) (vis : Nat → Bool) (st : Nat) : Nat := left vis n * 1048577 + st

theorem RFM.pop {n k : Nat} {vis : Nat → Bool} : RFM n vis (k + 1) = RFM n vis k + 1 := by unfold RFM; omega
theorem RFM.new {n k : Nat} {vis : Nat → Bool} {x : Nat} (hx : vis x = false) (hn : x < n) : RFM n (up vis x true) k + 1048577 = RFM n vis k := by
  have := left_up vis x hx n hn
  unfold RFM
  omega
theorem RFM.more {n k : Nat} {vis : Nat → Bool} (j : Nat) : RFM n vis k ≤ RFM n vis j + (k - j) := by unfold RFM; omega
theorem RFM.big {n k B : Nat} {vis : Nat → Bool} (h : RFM n vis k ≤ B) : k ≤ B := by unfold RFM at h; omega

def RFRel (n m : Nat) (L : Nat → Nat) (Z : Nat → Nat → Int) (lv rs : Nat → Int) (v0 : Nat) (w : World) (vb : Nat) (g : Nat) (sv : Value) (wr : World) : Prop :=
  ∃ (vis : Nat → Bool) (st : List Nat), g = RFM n vis st.length ∧ g ≤ 4294971394 ∧ Stk w.heap.size vb wr sv st ∧ wr.rowIs vb 4 n (fun v => .bool (vis v)) ∧ Srch n m L Z lv rs v0 vis st ∧ Below w.heap.size w wr

def RFIn (n m : Nat) (L : Nat → Nat) (Z : Nat → Nat → Int) (lv rs : Nat → Int) (v0 : Nat) (w : World) (vb : Nat) (vis : Nat → Bool) (x r k0 : Nat) (g : Nat) (sv kv : Value) (wr : World) : Prop :=
  ∃ (kk : Nat) (st : List Nat), kk ≤ L r ∧ g = L r - kk ∧ kv = .int .i64 kk ∧ st.length ≤ k0 + kk ∧ Stk w.heap.size vb wr sv st ∧ wr.rowIs vb 4 n (fun v => .bool (vis v)) ∧ Part n m L Z lv rs v0 vis x r kk st ∧ Below w.heap.size w wr

theorem info4 : (Try.prog.info? 4).map (fun i => (i.zero, i.size, i.bytes)) = some (some (.bool false), 1, 1) := by kernel_rfl

set_option maxRecDepth 100000 in
set_option maxHeartbeats 2000000 in
theorem reachFrom_any {n m sdb b3 b4 v0 cc : Nat} {ca : Option Addr} {A : Nat → Option Addr} {L C : Nat → Nat} {Z : Nat → Nat → Int} {lv rs : Nat → Int} {w : World} (hf : Form n m L Z) (hR : SlR (fun b => b < w.heap.size) w ca m A L C Z)
    (hsd : w.cell? ⟨sdb, 0, none⟩ = some (.int .i64 (v0 : Int))) (hsdb : sdb < w.heap.size) (hv0 : v0 < n) (h3 : w.rowIs b3 21 n (fun v => .int .i32 (lv v))) (h4 : w.rowIs b4 21 n (fun v => .int .i32 (rs v))) (hrs : ∀ v, v < n → -1 ≤ rs v ∧ rs v < (m : Int)) :
    Calls Try.prog 32 #[.slice (some ⟨sdb, 0, none⟩) 1 1, .int .i64 (-1), .int .i32 0, .slice ca m cc, .slice (some ⟨b3, 0, none⟩) n n, .slice (some ⟨b4, 0, none⟩) n n, .int .i64 (n : Int)] w fun e w' => RFPost n m L Z lv rs v0 w e w' := by
  have hn := hf.n1
  have hm := hf.m1
  have hb3 := h3.lt
  have hb4 := h4.lt
  have hmk1 := run_make_row' (P := Try.prog) 50 4 (.bool false) 1 Try.underlying50 info4 rfl .i64 .i64 n (by omega) (by omega)
  obtain ⟨i0, hi0, hz0, hz1, hz2⟩ := info_parts info3
  go_enter Try.func32, Try.ntmps32
  go_upto_region 2 with fail
  go_wp2_with (first | (at_make; (refine wpList_make_own _ rfl _ _ 42 rfl w.heap.size 3 i0 (.int .i64 0) 1 Try.underlying42 hi0 hz0 hz1 _ _ _ 1 rfl rfl rfl (by omega) (by unfold maxLen; omega) (by simp) ?_)))
  intro w1 hown hgrow
  have hst0 : Stk w.heap.size w.heap.size w1 (.slice (some ⟨w.heap.size + 1, 0, none⟩) 0 1) [] := ⟨hown, fun k hk => by
    obtain rfl : w.heap.size + 1 = k := by simpa [Value.ownBlock] using hk
    omega⟩
  have hrow0 : w1.rowIs w.heap.size 4 n (fun _ => .bool false) := (World.rowIs_made w (.bool false) n 4).of_block (hgrow.block _ (by simp) (by simp))
  have hbel0 : Below w.heap.size w w1 := ((Below.refl _ _).alloc (Nat.le_refl _) _).grown hgrow (by simp) (fun k hk => by cases hk)
  have HR := hide hR
  have H34 := hide (And.intro h3 (And.intro h4 hsd))
  have Hrs := hide hrs
  clear hown hgrow hmk1 hR h3 h4 hsd hrs
  generalize w.heap.size + 1 = b9 at *
  obtain ⟨vb, hvbe⟩ : ∃ vb, vb = w.heap.size := ⟨_, rfl⟩
  have hst1 : Stk w.heap.size vb w1 (.slice (some ⟨b9, 0, none⟩) 0 1) [] := by rw [hvbe]; exact hst0
  rw [← hvbe] at hrow0 ⊢
  have hvb : w.heap.size ≤ vb := by omega
  have HS : Hid (RFSeed n lv v0 w vb 1 (.slice (some ⟨b9, 0, none⟩) 0 1) (.int .i64 0) w1) := ⟨0, [], by omega, rfl, rfl, hst1, hrow0, hbel0, fun _ => rfl, fun h => by cases h⟩
  clear hst0 hst1 hrow0 hbel0 hvbe
  go_wp2_with fail
  go_loopg [16, 17] 1 (fun g sv iv wr => RFSeed n lv v0 w vb g sv iv wr)
  case atStart => exact HS.out
  case round =>
    clear HS
    obtain ⟨i, st, hi, hgi, rfl, hS, hrow, hbel, e0, e1⟩ := hrel
    have Hgi := hide hgi
    clear hgi
    obtain ⟨sa, sc, rfl⟩ := ownsRow_len hS.own
    by_cases hi0' : i = 0
    · subst hi0'
      obtain rfl := e0 rfl
      have c0 : wr.cell? ⟨sdb, 0, none⟩ = some (.int .i64 (v0 : Int)) := (World.cell?_of_block (w := w) (hbel.block sdb hsdb)).trans H34.out.2.2
      have hr3 := H34.out.1.of_block (hbel.block b3 hb3)
      have HC := hide (inScope_any hr3 v0 hv0 hn)
      clear hr3 e0 e1
      by_cases hl : 1 ≤ lv v0
      · have hlb : decide (1 ≤ lv v0) = true := decide_eq_true hl
        go_upto_region 7 with (first | (go_at_call 48; refine HC.out.mono ?_; rintro e w' ⟨rfl, hw9⟩; have hw8 := hw9.symm; clear hw9; subst hw8))
        have hvbl : vb < wr.heap.size := hrow.lt
        have hws : w.heap.size ≤ (wr.alloc (.cells #[.int .i64 (v0 : Int)] 3)).heap.size := by have := hbel.size; simp; omega
        have hoS : (wr.alloc (.cells #[.int .i64 (v0 : Int)] 3)).ownsRow w.heap.size 3 1 (.slice sa 0 sc) 0 [] := ownsRow_block hS.own fun k hk => Below.heap_alloc wr _ k (hS.own.lt k hk).2
        have Hrow := hide hrow
        have Hbel := hide hbel
        clear hrow hbel HC
        go_wp2_with (at_builtin; go_loud (refine wpList_append_lies _ rfl _ _ 42 rfl w.heap.size 3 i0 (.int .i64 0) 1 8 Try.underlying42 hi0 hz0 hz1 hz2 rfl (by decide) (.slice sa 0 sc) 0 [] rfl hoS ⟨wr.heap.size, 0, none⟩ 1 1 [.int .i64 (v0 : Int)] rfl rfl (World.news_of_block (heap_alloc_new wr _)) (by simp [Value.oneCell']) (by decide) (by unfold maxLen; omega) (by omega) hws (wr.heap.size + 1) (by simp) ?_))
        intro g cap w5 hown hgrow hat hlt
        obtain ⟨p1, p2, p3⟩ := hS.pushed (n := n) hvbl hown hgrow hat
        have H5 := hide (And.intro p1 (And.intro (p2 _ Hrow.out) (p3 _ Hbel.out Hbel.out.size)))
        clear p1 p2 p3 hown hgrow hat hS hoS
        go_wp2_with fail
        go_roundg 0
        case measure => rw [Hgi.out]; omega
        case rel => exact ⟨1, [v0], by omega, rfl, by go_num, H5.out.1, H5.out.2.1, H5.out.2.2, (fun h => by cases h), fun _ => by rw [if_pos hl]⟩
      · have hlb : decide (1 ≤ lv v0) = false := decide_eq_false hl
        go_wp2_with (first | (go_at_call 48; refine HC.out.mono ?_; rintro e w' ⟨rfl, hw9⟩; have hw8 := hw9.symm; clear hw9; subst hw8))
        go_roundg 0
        case measure => rw [Hgi.out]; omega
        case rel => exact ⟨1, [], by omega, rfl, by go_num, hS, hrow, hbel, (fun h => by cases h), fun _ => by rw [if_neg (by omega)]⟩
    · have hi1 : i = 1 := by omega
      subst hi1
      have hst := e1 rfl
      have hsr : Srch n m L Z lv rs v0 (fun _ => false) st := by
        rw [hst]
        refine ⟨fun x hx => ?_, fun x hx => by simp at hx, fun x r k hx => by simp at hx, fun hl => ?_⟩
        · split at hx
          · rename_i hl
            simp at hx
            rw [hx]
            exact ⟨hv0, Rch.base hl⟩
          · simp at hx
        · rw [if_pos hl]
          exact .inr (by simp)
      have hsl : st.length ≤ 1 := by rw [hst]; split <;> simp
      have hsM : RFM n (fun _ => false) st.length ≤ 4294971394 := by
        have := left_le (fun _ => false) n
        unfold RFM
        omega
      have HS : Hid (RFRel n m L Z lv rs v0 w vb (RFM n (fun _ => false) st.length) (.slice sa st.length sc) wr) := ⟨_, st, rfl, hsM, hS, hrow, hsr, hbel⟩
      clear hst hsr hsM hS hrow hbel e0 e1 hi0' Hgi
      obtain ⟨wo, hwo⟩ : ∃ wo : World, wo = wr := ⟨_, rfl⟩
      subst hwo
      go_wp2_with fail
      go_loopg [16] (RFM n (fun _ => false) st.length) (fun g sv wr => RFRel n m L Z lv rs v0 w vb g sv wr)
      case atStart => exact HS.out
      case round =>
        clear HS
        obtain ⟨vis, st, hgi, hM, hS, hrow, hsr, hbel⟩ := hrel
        have Hgi := hide hgi
        have hM' := hide hM
        clear hgi hM
        rcases List.eq_nil_or_concat st with rfl | ⟨st', x, rfl⟩
        · obtain ⟨sa, sc, rfl⟩ := ownsRow_len hS.own
          go_wp2
          go_ret
          exact ⟨vb, vis, rfl, hrow, hsr.done, hvb, hbel⟩
        · rw [List.concat_eq_append] at hS hsr Hgi
          obtain ⟨gS, cap, rfl, hcap, cx, hS'⟩ := hS.pop
          obtain ⟨hxn, hxr⟩ := hsr.stk x (by simp)
          have hgi := Hgi.out
          rw [List.length_append, List.length_singleton, RFM.pop] at hgi
          have hlen := RFM.big (n := n) (vis := vis) (k := st'.length) (B := 4294971394) (by have := hM'.out; omega)
          have Hg2 := hide hgi
          clear hgi hS Hgi
          generalize hkl : st'.length = kl at *
          have hwk : IntKind.i64.wrap (((kl + 1 : Nat) : Int) - 1) = (kl : Int) := by rw [IntKind.wrap_i64]; omega
          have hkc : (kl : Int) ≤ (cap : Int) := by omega
          have hk1 : (kl : Int) < ((kl + 1 : Nat) : Int) := by omega
          have hxi : (x : Int) < (n : Int) := by omega
          have cv : wr.cell? ⟨vb, x, none⟩ = some (.bool (vis x)) := hrow.cell hxn
          by_cases hvx : vis x = true
          · rw [hvx] at cv
            have hsr' := hsr.drop hvx
            go_wp2_with fail
            go_roundg (RFM n vis kl)
            case measure => rw [Hg2.out]; omega
            case rel => exact ⟨vis, st', by rw [hkl], by have := hM'.out; rw [Hg2.out] at this; omega, hkl ▸ hS', hrow, hsr', hbel⟩
          · have hvf : vis x = false := by simpa using hvx
            rw [hvf] at cv
            have zv := hrow.frozen x
            have hrow1 : (wr.setCell ⟨vb, x, none⟩ (.bool true)).rowIs vb 4 n (fun v => .bool (up vis x true v)) := (World.rowIs.set (w := wr) hrow _ _).congr (fun j _ => by by_cases e : j = x <;> simp [up, e])
            have hbel1 : Below w.heap.size w (wr.setCell ⟨vb, x, none⟩ (.bool true)) := hbel.setCell hvb _
            have hS1 : Stk w.heap.size vb (wr.setCell ⟨vb, x, none⟩ (.bool true)) (.slice (some ⟨gS, 0, none⟩) kl cap) st' := hS'.frame fun b hb _ => Below.heap_setCell _ _ _ _ hb
            have H1 := hide (And.intro hrow1 (And.intro hbel1 hS1))
            have hrx := Hrs.out x hxn
            have hMn := RFM.new (k := kl) hvf hxn
            have Hsr := hide hsr
            clear hrow hbel hS' hrow1 hbel1 hS1 hsr hvx
            go_upto_region 13 with fail
            obtain ⟨hrow, hbel, hS⟩ := H1.out
            clear H1 cv zv cx
            generalize wr.setCell ⟨vb, x, none⟩ (.bool true) = w5 at *
            have c4 : w5.cell? ⟨b4, x, none⟩ = some (.int .i32 (rs x)) := (World.cell?_of_block (w := w) (hbel.block b4 hb4)).trans (H34.out.2.1.cell hxn)
            by_cases hr : rs x < 0
            · have hpn := (Hsr.out.enter 0).none (fun r hr2 => by omega)
              have hrb : decide (rs x < 0) = true := decide_eq_true hr
              go_wp2_with fail
              go_roundg (RFM n (up vis x true) kl)
              case measure => rw [Hg2.out]; omega
              case rel => exact ⟨_, st', by rw [hkl], by have a := hM'.out; have b := Hg2.out; omega, hkl ▸ hS, hrow, hpn, hbel⟩
            · obtain ⟨r, hrr⟩ := Int.eq_ofNat_of_zero_le (show 0 ≤ rs x by omega)
              rw [hrr] at c4 hrx
              have hrm : r < m := by omega
              have hpe := Hsr.out.enter r
              have hlt0 : decide ((r : Int) < 0) = false := decide_eq_false (by omega)
              have hlm : decide (m ≤ r) = false := decide_eq_false (by omega)
              have hlm2 : decide ((m : Int) ≤ (r : Int)) = false := decide_eq_false (by omega)
              obtain ⟨⟨b2, o2, rfl, hb2, hch0⟩, hrw⟩ := HR.out r hrm
              have hch : w5.cell? ⟨b2, o2 + r, none⟩ = some (.slice (A r) (L r) (C r)) := (World.cell?_of_block (w := w) (hbel.block b2 hb2)).trans hch0
              have hl2 := hf.l2 r hrm
              have hl3 := hf.l3 r hrm
              obtain ⟨rb, ro, hra, hrbb, _⟩ := hrw 0 (by omega)
              rw [hra] at hch
              have HC : Hid (∀ wx, Below w.heap.size w wx → ∀ j, j < L r → wx.cell? ⟨rb, ro + j, none⟩ = some (.int .i32 (Z r j))) := fun wx hx j hj => by
                obtain ⟨rb', ro', hra', hb9, hcell⟩ := hrw j hj
                rw [hra] at hra'
                obtain ⟨rfl, rfl⟩ : rb = rb' ∧ ro = ro' := by simpa using hra'
                exact (World.cell?_of_block (w := w) (hx.block rb hb9)).trans hcell
              clear hrw hra hch0 hr
              have HS : Hid (RFIn n m L Z lv rs v0 w vb (up vis x true) x r kl (L r) (.slice (some ⟨gS, 0, none⟩) kl cap) (.int .i64 0) w5) := ⟨0, st', by omega, rfl, rfl, by omega, hkl ▸ hS, hrow, hpe, hbel⟩
              have hri : (r : Int) < (m : Int) := by omega
              clear hS hrow hpe hbel
              go_wp2_with fail
              clear c4 hch
              obtain ⟨wo2, hwo2⟩ : ∃ wo2 : World, wo2 = w5 := ⟨_, rfl⟩
              go_loopg [16, 21] (L r) (fun g sv kv wr => RFIn n m L Z lv rs v0 w vb (up vis x true) x r kl g sv kv wr)
              case atStart => exact HS.out
              case round =>
                clear HS
                obtain ⟨kk, st2, hkk, hgk, rfl, hsl, hS, hrow, hpt, hbel⟩ := hrel
                have Hgk := hide hgk
                clear hgk
                obtain ⟨sa, sc, rfl⟩ := ownsRow_len hS.own
                by_cases hlk : kk < L r
                · have hz := hf.rng r hrm kk hlk
                  have cz := HC.out wr hbel kk hlk
                  have hzy : Z r kk / 2 = (vr (Z r kk) : Int) := by unfold vr; omega
                  have hyn : vr (Z r kk) < n := by unfold vr; omega
                  have cvy : wr.cell? ⟨vb, vr (Z r kk), none⟩ = some (.bool (up vis x true (vr (Z r kk)))) := hrow.cell hyn
                  have HCs := hide (inScope_any (H34.out.1.of_block (hbel.block b3 hb3)) (vr (Z r kk)) hyn hn)
                  have Hskip := hide (fun hs => hpt.skip (kk := kk) hs)
                  have Hpush := hide (fun hl => hpt.push hrr hrm hlk hl hyn)
                  have hyi : (vr (Z r kk) : Int) < (n : Int) := by omega
                  clear hpt
                  generalize vr (Z r kk) = y at *
                  by_cases hyx : y = x
                  · have hyb : ((y : Int) == (x : Int)) = true := by rw [hyx]; simp
                    have hsk := Hskip.out (.inl hyx)
                    go_wp2_with fail
                    go_roundg (L r - (kk + 1))
                    case measure => rw [Hgk.out]; omega
                    case rel => exact ⟨kk + 1, st2, by omega, rfl, by go_num, by omega, hS, hrow, hsk, hbel⟩
                  · have hyb : ((y : Int) == (x : Int)) = false := by rw [beq_eq_false_iff_ne]; omega
                    by_cases hvy : up vis x true y = true
                    · rw [hvy] at cvy
                      have hsk := Hskip.out (.inr (.inl hvy))
                      go_wp2_with fail
                      go_roundg (L r - (kk + 1))
                      case measure => rw [Hgk.out]; omega
                      case rel => exact ⟨kk + 1, st2, by omega, rfl, by go_num, by omega, hS, hrow, hsk, hbel⟩
                    · have hvy2 : up vis x true y = false := by simpa using hvy
                      rw [hvy2] at cvy
                      by_cases hly : 1 ≤ lv y
                      · have hlb : decide (1 ≤ lv y) = true := decide_eq_true hly
                        have hpu := Hpush.out hly
                        go_upto_region 21 with (first | (go_at_call 48; refine HCs.out.mono ?_; rintro e w' ⟨rfl, hw9⟩; have hw8 := hw9.symm; clear hw9; subst hw8))
                        have hvbl : vb < wr.heap.size := hrow.lt
                        have hws : w.heap.size ≤ (wr.alloc (.cells #[.int .i64 (y : Int)] 3)).heap.size := by have := hbel.size; simp; omega
                        have hoS : (wr.alloc (.cells #[.int .i64 (y : Int)] 3)).ownsRow w.heap.size 3 1 (.slice sa st2.length sc) st2.length (st2.map (fun x : Nat => Value.int .i64 (x : Int))) := ownsRow_block hS.own fun k hk => Below.heap_alloc wr _ k (hS.own.lt k hk).2
                        have hl9 : st2.length ≤ 5000000000 := by omega
                        have Hrow := hide hrow
                        have Hbel := hide hbel
                        clear hrow hbel HCs cz cvy
                        go_wp2_with (at_builtin; go_loud (refine wpList_append_lies _ rfl _ _ 42 rfl w.heap.size 3 i0 (.int .i64 0) 1 8 Try.underlying42 hi0 hz0 hz1 hz2 rfl (by decide) (.slice sa st2.length sc) st2.length (st2.map (fun x : Nat => Value.int .i64 (x : Int))) rfl hoS ⟨wr.heap.size, 0, none⟩ 1 1 [.int .i64 (y : Int)] rfl rfl (World.news_of_block (heap_alloc_new wr _)) (by simp [Value.oneCell']) (by decide) (by unfold maxLen; omega) (by omega) hws (wr.heap.size + 1) (by simp) ?_))
                        intro g cap w6 hown hgrow hat hlt
                        obtain ⟨p1, p2, p3⟩ := hS.pushed (n := n) hvbl hown hgrow hat
                        have H5 := hide (And.intro p1 (And.intro (p2 _ Hrow.out) (p3 _ Hbel.out Hbel.out.size)))
                        clear p1 p2 p3 hown hgrow hat hS hoS
                        go_wp2_with fail
                        go_roundg (L r - (kk + 1))
                        case measure => rw [Hgk.out]; omega
                        case rel => exact ⟨kk + 1, st2 ++ [y], by omega, rfl, by go_num, by rw [List.length_append, List.length_singleton]; omega, H5.out.1, H5.out.2.1, hpu, H5.out.2.2⟩
                      · have hlb : decide (1 ≤ lv y) = false := decide_eq_false hly
                        have hsk := Hskip.out (.inr (.inr (by omega)))
                        go_wp2_with (first | (go_at_call 48; refine HCs.out.mono ?_; rintro e w' ⟨rfl, hw9⟩; have hw8 := hw9.symm; clear hw9; subst hw8))
                        go_roundg (L r - (kk + 1))
                        case measure => rw [Hgk.out]; omega
                        case rel => exact ⟨kk + 1, st2, by omega, rfl, by go_num, by omega, hS, hrow, hsk, hbel⟩
                · have hke : kk = L r := by omega
                  subst hke
                  have hpa := hpt.all hrr
                  have hmore := RFM.more (n := n) (vis := up vis x true) (k := st2.length) kl
                  go_wp2_with fail
                  go_roundg (RFM n (up vis x true) st2.length)
                  case measure => rw [Hg2.out]; omega
                  case rel => exact ⟨_, st2, rfl, by have a := hM'.out; have b := Hg2.out; omega, hS, hrow, hpa, hbel⟩
end Go.Proofs.Qxb6600345a

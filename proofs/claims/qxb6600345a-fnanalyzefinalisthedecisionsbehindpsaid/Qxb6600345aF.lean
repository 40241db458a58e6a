import Derived.Test.Qxb6600345aR
namespace Go.Proofs.Qxb6600345a
open Go.RowKit
set_option linter.unusedVariables false
set_option linter.unusedSimpArgs false

/-- a literal's value in the state -/
def St.val (σ : St) (l : Int) : Int := lx (σ.av (vr l)) l

def swap1 (f : Nat → Int) (i j : Nat) : Nat → Int := up (up f i (f j)) j (f i)

/-- clause i: places 1 and k change; i goes on the watch list of the negation of what stood at k -/
def St.rewatch (σ : St) (i k : Nat) : St :=
  { σ with cl := up σ.cl i (swap1 (σ.cl i) 1 k), wt := up σ.wt (ng (σ.cl i k)).toNat (σ.wt (ng (σ.cl i k)).toNat ++ [(i : Int)]) }

theorem ng_bound {l : Int} {n : Nat} (h0 : 0 ≤ l) (h1 : l < 2 * (n : Int)) : 0 ≤ ng l ∧ ng l < 2 * (n : Int) := by
  unfold ng
  split <;> omega

theorem RepL.cast {n m B sb : Nat} {len : Nat → Nat} {x : Option Nat} {T : Nat → Nat} {w : World} {σ σ' : St} {L : Lay} (h : RepL n m len B x T w sb σ L) (e : σ = σ') : RepL n m len B x T w sb σ' L := e ▸ h

theorem hide {p : Prop} (h : p) : Hid p := h

theorem litValue_val {n m B sb : Nat} {len : Nat → Nat} {x : Option Nat} {T : Nat → Nat} {w : World} {σ : St} (h : Rep n m len B x T w sb σ) (l : Int) (hl : 0 ≤ l) (hl2 : l < 2 * (n : Int)) (hn : n ≤ 4096) (hav : ∀ v, 0 ≤ σ.av v ∧ σ.av v ≤ 2) :
    Calls Try.prog 43 #[.pointer (some ⟨sb, 0, none⟩), .int .i32 l] w fun e w' => e = .returned (.int .i8 (σ.val l)) ∧ ∃ n, w' = w.drewN n :=
  litValue_rep h l hl hl2 hn (hav _)

def RwPost (n m : Nat) (len : Nat → Nat) (B : Nat) (x : Option Nat) (T : Nat → Nat) (w : World) (sb : Nat) (σ : St) (i : Nat) (e : Ending) (w' : World) : Prop :=
  (e = .returned (.bool false) ∧ (∃ q, w' = w.drewN q) ∧ ∀ k, 2 ≤ k → k < len i → σ.val (σ.cl i k) = 2) ∨
  (e = .returned (.bool true) ∧ ∃ k T', 2 ≤ k ∧ k < len i ∧ σ.val (σ.cl i k) ≠ 2 ∧ Rep n m len B x T' w' sb (σ.rewatch i k) ∧ Grew T T' w w')

set_option maxHeartbeats 1000000 in
theorem rewatch_walk {n m B sb : Nat} {len : Nat → Nat} {x : Option Nat} {T : Nat → Nat} {w : World} {σ : St} {L : Lay} (h : RepL n m len B x T w sb σ L) (i : Nat) (hi : i < m) (hm : m ≤ 65536) (hn : n ≤ 4096)
    (hlen : len i ≤ 1048576) (hcl : ∀ k, k < len i → 0 ≤ σ.cl i k ∧ σ.cl i k < 2 * (n : Int)) (hav : ∀ v, 0 ≤ σ.av v ∧ σ.av v ≤ 2) (h2 : 2 ≤ len i)
    (hx : ∀ k, 2 ≤ k → k < len i → σ.val (σ.cl i k) ≠ 2 → x ≠ some (ng (σ.cl i k)).toNat) (hwl : ∀ l, l < 2 * n → (σ.wt l).length ≤ 1048576) (hB : B ≤ w.heap.size) :
    Calls Try.prog 52 #[.pointer (some ⟨sb, 0, none⟩), .slice (some ⟨L.cf i, 0, none⟩) (len i) (len i), .int .i32 (i : Int)] w fun e w' => RwPost n m len B x T w sb σ i e w' := by
  go_enter Try.func52, Try.ntmps52
  go_wp2
  go_loopg [7] (len i - 2) (fun g t wr => ∃ k : Nat, 2 ≤ k ∧ k ≤ len i ∧ g = len i - k ∧ t = .int .i64 k ∧ (∃ q, wr = w.drewN q) ∧ ∀ j, 2 ≤ j → j < k → σ.val (σ.cl i j) = 2)
  case atStart => exact ⟨2, by omega, h2, rfl, rfl, ⟨0, rfl⟩, fun j h1 h2 => by omega⟩
  case round =>
    obtain ⟨k, hk2, hkl, hgk, rfl, ⟨q, rfl⟩, hall⟩ := hrel
    by_cases hlt : k < len i
    · have hR : Rep n m len B x T (w.drewN q) sb σ := ⟨L, h.heap rfl⟩
      have hc := hcl k hlt
      have ck : w.cell? ⟨L.cf i, k, none⟩ = some (.int .i32 (σ.cl i k)) := (h.rc i hi).cell hlt
      by_cases hv : σ.val (σ.cl i k) = 2
      · have hvb : (σ.val (σ.cl i k) != 2) = false := by simp [hv]
        have HA : Hid (∀ j, 2 ≤ j → j < k + 1 → σ.val (σ.cl i j) = 2) := fun j h1 h2 => by
          by_cases e : j = k
          · subst e; exact hv
          · exact hall j h1 (by omega)
        clear hall hv
        go_wp2_with (first | (go_at_call 43; refine (litValue_val hR _ hc.1 hc.2 hn hav).mono ?_; rintro e w' ⟨rfl, q', rfl⟩))
        go_roundg (len i - (k + 1))
        case measure => omega
        case rel => exact ⟨k + 1, by omega, by omega, rfl, by go_num, ⟨_, rfl⟩, HA.out⟩
      · have hvb : (σ.val (σ.cl i k) != 2) = true := by simp [hv]
        clear hall
        go_wp2_with (first | (go_at_call 43; refine (litValue_val hR _ hc.1 hc.2 hn hav).mono ?_; rintro e w' ⟨rfl, q', rfl⟩))
        have h1 := h.heap (w' := w.drewN (q + q')) rfl
        have G1 := Grew.drewN T w (q + q')
        generalize w.drewN (q + q') = w1 at *
        have hB1 : B ≤ w1.heap.size := Nat.le_trans hB G1.size
        clear h hR ck hB
        have ck : w1.cell? ⟨L.cf i, k, none⟩ = some (.int .i32 (σ.cl i k)) := (h1.rc i hi).cell hlt
        have c1 : w1.cell? ⟨L.cf i, 1, none⟩ = some (.int .i32 (σ.cl i 1)) := (h1.rc i hi).cell (by omega)
        have z := (h1.rc i hi).frozen
        have hk1 : ¬ k = 1 := by omega
        have hk1' : ¬ 1 = k := by omega
        have hki : (k : Int) < (len i : Int) := by omega
        have hli : (1 : Int) < (len i : Int) := by omega
        go_region
        go_wp2_with fail
        have h2 := ((h1.setC i 1 hi (σ.cl i k)).setC i k hi (σ.cl i 1)).heap (w' := ((w1.setCell ⟨L.cf i, 1, none⟩ (.int .i32 (σ.cl i k))).setCell ⟨L.cf i, k, none⟩ (.int .i32 (σ.cl i 1))).drew) rfl |>.cast (σ' := { σ with cl := up σ.cl i (swap1 (σ.cl i) 1 k) }) (by simp only [swap1, up_up, up_same])
        have G2 : Grew T T w1 ((w1.setCell ⟨L.cf i, 1, none⟩ (.int .i32 (σ.cl i k))).setCell ⟨L.cf i, k, none⟩ (.int .i32 (σ.cl i 1))).drew :=
          ((grew_setCell (by show T (L.cf i) ≠ 0; rw [h1.tc i hi]; omega)).trans (grew_setCell (by show T (L.cf i) ≠ 0; rw [h1.tc i hi]; omega))).trans (Grew.drewN T _ 1)
        clear ck c1 z
        generalize ((w1.setCell ⟨L.cf i, 1, none⟩ (.int .i32 (σ.cl i k))).setCell ⟨L.cf i, k, none⟩ (.int .i32 (σ.cl i 1))).drew = w2 at *
        have hB2 : B ≤ w2.heap.size := Nat.le_trans hB1 G2.size
        obtain ⟨hn0, hn1⟩ := ng_bound hc.1 hc.2
        have hcx := hx k hk2 hlt hv
        have hli2 : σ.cl i k < 2147483648 := by omega
        have hc0 := hc.1
        have e1 : up σ.cl i (swap1 (σ.cl i) 1 k) i 1 = σ.cl i k := by
          rw [up_same]; unfold swap1; rw [up_ne _ _ (by omega), up_same]
        have c1 : w2.cell? ⟨L.cf i, 1, none⟩ = some (.int .i32 (σ.cl i k)) := by
          have := (h2.rc i hi).cell (i := 1) (by omega)
          exact this.trans (congrArg (fun t => some (Value.int .i32 t)) e1)
        have cs : w2.cell? ⟨sb, 1, none⟩ = some (.slice (some ⟨L.wb, 0, none⟩) (2 * n) (2 * n)) := by
          have := h2.fS.cell (i := 1) (by decide)
          rw [this, h2.f1]
        obtain ⟨wa, wc, hwv⟩ := ownsRow_len (h2.oW (ng (σ.cl i k)).toNat (by omega) hcx)
        have cw : w2.cell? ⟨L.wb, (ng (σ.cl i k)).toNat, none⟩ = some (.slice wa (σ.wt (ng (σ.cl i k)).toNat).length wc) := by
          have := h2.rW.cell (i := (ng (σ.cl i k)).toNat) (by omega)
          rw [this, hwv]
        have oW := h2.oW (ng (σ.cl i k)).toNat (by omega) hcx
        rw [hwv] at oW
        have hne : ¬ sb = L.wb := by intro e; have := h2.tW; rw [← e, h2.tS] at this; cases this
        have Hwv := hide hwv
        have Hx := hide hcx
        have HG1 := hide G1
        have Hvb := hide hv
        obtain ⟨i0, hi0, hz0, hz1, hz2⟩ := info_parts info21
        have h4 := (h2.heap (w' := w2.drew) rfl).alloc (.cells #[.int .i32 (i : Int)] 21)
        have oW' : ((w2.alloc (.cells #[.int .i32 (i : Int)] 21)).drew).ownsRow B 21 1 (.slice wa (σ.wt (ng (σ.cl i k)).toNat).length wc) (σ.wt (ng (σ.cl i k)).toNat).length ((σ.wt (ng (σ.cl i k)).toNat).map (Value.int .i32)) := by
          have := h4.oW (ng (σ.cl i k)).toNat (by omega) hcx
          rw [hwv] at this
          exact this
        have keep3 : ∀ w3 : World, (w2.alloc (.cells #[.int .i32 (i : Int)] 21)).drew.grownBy w3 (Value.slice wa (σ.wt (ng (σ.cl i k)).toNat).length wc).ownBlock →
            w3.cell? ⟨sb, 1, none⟩ = some (.slice (some ⟨L.wb, 0, none⟩) (2 * n) (2 * n)) ∧ w3.cell? ⟨L.cf i, 1, none⟩ = some (.int .i32 (σ.cl i k)) ∧ w3.cell? ⟨L.wb, (ng (σ.cl i k)).toNat, none⟩ = some (.slice wa (σ.wt (ng (σ.cl i k)).toNat).length wc) ∧ w3.frozen? ⟨L.wb, (ng (σ.cl i k)).toNat, none⟩ = false := fun w3 hg => by
          rw [← hwv] at hg
          have tk := h4.tw (ng (σ.cl i k)).toNat (by omega) hcx
          have kp : ∀ b, T b ≠ 0 → T b ≠ 11 + 2 * (ng (σ.cl i k)).toNat → w3.heap[b]? = (w2.drew.alloc (.cells #[.int .i32 (i : Int)] 21)).heap[b]? := fun b h0 hb =>
            hg.block b (h4.tz b h0).2 (fun e => hb (tk b e.symm))
          have ks := kp sb (by rw [h4.tS]; omega) (by rw [h4.tS]; omega)
          have kc := kp (L.cf i) (by rw [h4.tc i hi]; omega) (by rw [h4.tc i hi]; omega)
          have kw := kp L.wb (by rw [h4.tW]; omega) (by rw [h4.tW]; omega)
          refine ⟨?_, ?_, ?_, ?_⟩
          · rw [World.cell?_of_block (w := w2.drew.alloc (.cells #[.int .i32 (i : Int)] 21)) ks, h4.fS.cell (i := 1) (by decide), h4.f1]
          · rw [World.cell?_of_block (w := w2.drew.alloc (.cells #[.int .i32 (i : Int)] 21)) kc]
            exact ((h4.rc i hi).cell (i := 1) (by omega)).trans (congrArg (fun t => some (Value.int .i32 t)) e1)
          · rw [World.cell?_of_block (w := w2.drew.alloc (.cells #[.int .i32 (i : Int)] 21)) kw, h4.rW.cell (i := (ng (σ.cl i k)).toNat) (by omega), hwv]
          · rw [World.frozen?_of_block (w := w2.drew.alloc (.cells #[.int .i32 (i : Int)] 21)) kw]
            exact h4.rW.frozen _
        clear hwv e1 hcx hx hav hvb G1 hv hcl hlen hm
        generalize hl : σ.cl i k = l at *
        have Hl := hide hl
        clear hl
        refine wp_region_Z (fun w' => w'.cell? ⟨sb, 1, none⟩ = some (.slice (some ⟨L.wb, 0, none⟩) (2 * n) (2 * n)) ∧ w'.cell? ⟨L.cf i, 1, none⟩ = some (.int .i32 l) ∧ w'.cell? ⟨L.wb, (ng l).toNat, none⟩ = some (.slice wa (σ.wt (ng l).toNat).length wc)) 22 (by kernel_rfl) ?_
        have hS0 : w2.drew.cell? ⟨sb, 1, none⟩ = some (.slice (some ⟨L.wb, 0, none⟩) (2 * n) (2 * n)) ∧ w2.drew.cell? ⟨L.cf i, 1, none⟩ = some (.int .i32 l) ∧ w2.drew.cell? ⟨L.wb, (ng l).toNat, none⟩ = some (.slice wa (σ.wt (ng l).toNat).length wc) := ⟨cs, c1, cw⟩
        refine wpAnyZ_take (i := 0) (v := ?_) rfl (by kernel_rfl) (by kernel_rfl) (by kernel_rfl) (by kernel_rfl) (fun _ _ _ h => h) ⟨by rfl, ?_⟩ hS0 ?_
        rotate_left
        · intro w hSw; refine .inl ?_; go_simp; with_reducible rfl
        simp only [Act.put, List.getElem_toArray, List.getElem_cons_zero, List.getElem_cons_succ, List.setIfInBounds_toArray, List.set_cons_zero, List.set_cons_succ]
        refine wpAnyZ_take (i := 1) (v := ?_) rfl (by kernel_rfl) (by kernel_rfl) (by kernel_rfl) (by kernel_rfl) (fun _ _ _ h => h) ⟨by rfl, ?_⟩ hS0 ?_
        rotate_left
        · intro w hSw; refine .inl ?_; go_simp; with_reducible rfl
        simp only [Act.put, List.getElem_toArray, List.getElem_cons_zero, List.getElem_cons_succ, List.setIfInBounds_toArray, List.set_cons_zero, List.set_cons_succ]
        refine wpAnyZ_take (i := 2) (v := ?_) rfl (by kernel_rfl) (by kernel_rfl) (by kernel_rfl) (by kernel_rfl) (fun _ _ _ h => h) ⟨by rfl, ?_⟩ hS0 ?_
        rotate_left
        · intro w hSw; refine .inl ?_; go_simp; with_reducible rfl
        simp only [Act.put, List.getElem_toArray, List.getElem_cons_zero, List.getElem_cons_succ, List.setIfInBounds_toArray, List.set_cons_zero, List.set_cons_succ]
        refine wpAnyZ_take (i := 3) (v := ?_) rfl (by kernel_rfl) (by kernel_rfl) (by kernel_rfl) (by kernel_rfl) (fun _ _ _ h => h) ⟨by rfl, ?_⟩ hS0 ?_
        rotate_left
        · intro w hSw; refine .inl ?_; go_simp; with_reducible rfl
        simp only [Act.put, List.getElem_toArray, List.getElem_cons_zero, List.getElem_cons_succ, List.setIfInBounds_toArray, List.set_cons_zero, List.set_cons_succ]
        refine wpAnyZ_take (i := 4) (v := ?_) rfl (by kernel_rfl) (by kernel_rfl) (by kernel_rfl) (by kernel_rfl) (fun _ _ _ h => h) ⟨by rfl, ?_⟩ hS0 ?_
        rotate_left
        · intro w hSw; refine .inl ?_; go_simp; with_reducible rfl
        simp only [Act.put, List.getElem_toArray, List.getElem_cons_zero, List.getElem_cons_succ, List.setIfInBounds_toArray, List.set_cons_zero, List.set_cons_succ]
        refine wpAnyZ_take (i := 5) (v := ?_) rfl (by kernel_rfl) (by kernel_rfl) (by kernel_rfl) (by kernel_rfl) (fun _ _ _ h => h) ⟨by rfl, ?_⟩ hS0 ?_
        rotate_left
        · intro w hSw; refine .inl ?_; go_simp; with_reducible rfl
        simp only [Act.put, List.getElem_toArray, List.getElem_cons_zero, List.getElem_cons_succ, List.setIfInBounds_toArray, List.set_cons_zero, List.set_cons_succ]
        refine wpAnyZ_take (i := 6) (v := ?_) rfl (by kernel_rfl) (by kernel_rfl) (by kernel_rfl) (by kernel_rfl) (fun _ _ _ h => h) ⟨by rfl, ?_⟩ hS0 ?_
        rotate_left
        · intro w hSw; refine .inl ?_; go_simp; with_reducible rfl
        simp only [Act.put, List.getElem_toArray, List.getElem_cons_zero, List.getElem_cons_succ, List.setIfInBounds_toArray, List.set_cons_zero, List.set_cons_succ]
        refine wpAnyZ_take (i := 7) (v := .int .i32 (ng l)) rfl (by kernel_rfl) (by kernel_rfl) (by kernel_rfl) (by kernel_rfl) (fun _ _ _ h => h) ⟨by rfl, ?_⟩ hS0 ?_
        · intro w hSw; refine .inr ⟨41, #[.int .i32 l], ?_, not_any l hc0 hli2 w⟩; go_simp
        simp only [Act.put, List.getElem_toArray, List.getElem_cons_zero, List.getElem_cons_succ, List.setIfInBounds_toArray, List.set_cons_zero, List.set_cons_succ]
        refine wpAnyZ_take (i := 8) (v := ?_) rfl (by kernel_rfl) (by kernel_rfl) (by kernel_rfl) (by kernel_rfl) (fun _ _ _ h => h) ⟨by rfl, ?_⟩ hS0 ?_
        rotate_left
        · intro w hSw; refine .inl ?_; go_simp; with_reducible rfl
        simp only [Act.put, List.getElem_toArray, List.getElem_cons_zero, List.getElem_cons_succ, List.setIfInBounds_toArray, List.set_cons_zero, List.set_cons_succ]
        refine wpAnyZ_take (i := 9) (v := ?_) rfl (by kernel_rfl) (by kernel_rfl) (by kernel_rfl) (by kernel_rfl) (fun _ _ _ h => h) ⟨by rfl, ?_⟩ hS0 ?_
        rotate_left
        · intro w hSw; refine .inl ?_; go_simp; with_reducible rfl
        simp only [Act.put, List.getElem_toArray, List.getElem_cons_zero, List.getElem_cons_succ, List.setIfInBounds_toArray, List.set_cons_zero, List.set_cons_succ]
        refine wpAnyZ_take (i := 10) (v := ?_) rfl (by kernel_rfl) (by kernel_rfl) (by kernel_rfl) (by kernel_rfl) (fun _ _ _ h => h) ⟨by rfl, ?_⟩ hS0 ?_
        rotate_left
        · intro w hSw; refine .inl ?_; go_simp; with_reducible rfl
        simp only [Act.put, List.getElem_toArray, List.getElem_cons_zero, List.getElem_cons_succ, List.setIfInBounds_toArray, List.set_cons_zero, List.set_cons_succ]
        refine wpAnyZ_take (i := 11) (v := ?_) rfl (by kernel_rfl) (by kernel_rfl) (by kernel_rfl) (by kernel_rfl) (fun _ _ _ h => h) ⟨by rfl, ?_⟩ hS0 ?_
        rotate_left
        · intro w hSw; refine .inl ?_; go_simp; with_reducible rfl
        simp only [Act.put, List.getElem_toArray, List.getElem_cons_zero, List.getElem_cons_succ, List.setIfInBounds_toArray, List.set_cons_zero, List.set_cons_succ]
        refine wpAnyZ_take (i := 12) (v := ?_) rfl (by kernel_rfl) (by kernel_rfl) (by kernel_rfl) (by kernel_rfl) (fun _ _ _ h => h) ⟨by rfl, ?_⟩ hS0 ?_
        rotate_left
        · intro w hSw; refine .inl ?_; go_simp; with_reducible rfl
        simp only [Act.put, List.getElem_toArray, List.getElem_cons_zero, List.getElem_cons_succ, List.setIfInBounds_toArray, List.set_cons_zero, List.set_cons_succ]
        refine wpAnyZ_take (i := 13) (v := ?_) rfl (by kernel_rfl) (by kernel_rfl) (by kernel_rfl) (by kernel_rfl) (fun _ _ _ h => h) ⟨by rfl, ?_⟩ hS0 ?_
        rotate_left
        · intro w hSw; refine .inl ?_; go_simp; with_reducible rfl
        simp only [Act.put, List.getElem_toArray, List.getElem_cons_zero, List.getElem_cons_succ, List.setIfInBounds_toArray, List.set_cons_zero, List.set_cons_succ]
        refine wpAnyZ_take (i := 14) (v := ?_) rfl (by kernel_rfl) (by kernel_rfl) (by kernel_rfl) (by kernel_rfl) (fun _ _ _ h => h) ⟨by rfl, ?_⟩ hS0 ?_
        rotate_left
        · intro w hSw; refine .inl ?_; go_simp; with_reducible rfl
        simp only [Act.put, List.getElem_toArray, List.getElem_cons_zero, List.getElem_cons_succ, List.setIfInBounds_toArray, List.set_cons_zero, List.set_cons_succ]
        refine wpAnyZ_take (i := 15) (v := .int .i32 (ng l)) rfl (by kernel_rfl) (by kernel_rfl) (by kernel_rfl) (by kernel_rfl) (fun _ _ _ h => h) ⟨by rfl, ?_⟩ hS0 ?_
        · intro w hSw; refine .inr ⟨41, #[.int .i32 l], ?_, not_any l hc0 hli2 w⟩; go_simp
        simp only [Act.put, List.getElem_toArray, List.getElem_cons_zero, List.getElem_cons_succ, List.setIfInBounds_toArray, List.set_cons_zero, List.set_cons_succ]
        refine wpAnyZ_take (i := 16) (v := ?_) rfl (by kernel_rfl) (by kernel_rfl) (by kernel_rfl) (by kernel_rfl) (fun _ _ _ h => h) ⟨by rfl, ?_⟩ hS0 ?_
        rotate_left
        · intro w hSw; refine .inl ?_; go_simp; with_reducible rfl
        simp only [Act.put, List.getElem_toArray, List.getElem_cons_zero, List.getElem_cons_succ, List.setIfInBounds_toArray, List.set_cons_zero, List.set_cons_succ]
        refine wpAnyZ_take (i := 17) (v := ?_) rfl (by kernel_rfl) (by kernel_rfl) (by kernel_rfl) (by kernel_rfl) (fun _ _ _ h => h) ⟨by rfl, ?_⟩ hS0 ?_
        rotate_left
        · intro w hSw; refine .inl ?_; go_simp; with_reducible rfl
        simp only [Act.put, List.getElem_toArray, List.getElem_cons_zero, List.getElem_cons_succ, List.setIfInBounds_toArray, List.set_cons_zero, List.set_cons_succ]
        refine wpAnyZ_take (i := 18) (v := ?_) rfl (by kernel_rfl) (by kernel_rfl) (by kernel_rfl) (by kernel_rfl) (fun _ _ _ h => h) ⟨by rfl, ?_⟩ hS0 ?_
        rotate_left
        · intro w hSw; refine .inl ?_; go_simp; with_reducible rfl
        simp only [Act.put, List.getElem_toArray, List.getElem_cons_zero, List.getElem_cons_succ, List.setIfInBounds_toArray, List.set_cons_zero, List.set_cons_succ]
        clear hS0
        refine wpAnyZ_one (i := 19) rfl rfl (by kernel_rfl) fun K hK => ?_
        go_simp
        refine hK _ _ ?_ ?_
        · go_keep
        clear hK K
        refine wpAnyZ_one (i := 20) rfl rfl (by kernel_rfl) fun K hK => ?_
        refine wp_append_lies _ _ _ 23 (by rfl) B 21 i0 (.int .i32 0) 1 4 Try.underlying23 hi0 hz0 hz1 hz2 rfl (by decide) (.slice wa (σ.wt (ng l).toNat).length wc) (σ.wt (ng l).toNat).length ((σ.wt (ng l).toNat).map (Value.int .i32)) (by rfl) (by exact oW') ⟨w2.heap.size, 0, none⟩ 1 1 [.int .i32 (i : Int)] (by rfl) rfl (World.news_of_block (heap_alloc_new w2.drew _)) (by simp [Value.oneCell']) (by decide) (by have := hwl (ng l).toNat (by omega); unfold maxLen; omega) (by have := hwl (ng l).toNat (by omega); omega) (by simp; omega) (w2.heap.size + 1) (by simp) ?_
        intro g cap w3 hown hgrow hat hlt3
        obtain ⟨k1, k2, k3, k4⟩ := keep3 w3 hgrow
        refine hK _ _ ⟨k1, k2, k3⟩ ?_
        clear hK K
        simp only [Act.put, List.getElem_toArray, List.getElem_cons_zero, List.getElem_cons_succ, List.setIfInBounds_toArray, List.set_cons_zero, List.set_cons_succ]
        have hS0 : w3.cell? ⟨sb, 1, none⟩ = some (.slice (some ⟨L.wb, 0, none⟩) (2 * n) (2 * n)) ∧ w3.cell? ⟨L.cf i, 1, none⟩ = some (.int .i32 l) ∧ w3.cell? ⟨L.wb, (ng l).toNat, none⟩ = some (.slice wa (σ.wt (ng l).toNat).length wc) := ⟨k1, k2, k3⟩
        have HO := hide hown
        have HGr := hide hgrow
        have HAt := hide hat
        clear keep3 oW' hown hgrow hat
        refine wpAnyZ_take (i := 21) (v := ?_) rfl (by kernel_rfl) (by kernel_rfl) (by kernel_rfl) (by kernel_rfl) (fun _ _ _ h => h) ⟨by rfl, ?_⟩ hS0 ?_
        rotate_left
        · intro w hSw; refine .inl ?_; go_simp; with_reducible rfl
        simp only [Act.put, List.getElem_toArray, List.getElem_cons_zero, List.getElem_cons_succ, List.setIfInBounds_toArray, List.set_cons_zero, List.set_cons_succ]
        clear hS0
        refine wpAnyZ_end rfl rfl (by kernel_rfl) (by kernel_rfl) fun K hK => ?_
        go_simp
        refine hK _ _ ?_
        clear hK K
        go_wp2
        go_ret
        have hl := Hl.out
        have hgr := HGr.out
        have hat := HAt.out
        have hwv := Hwv.out
        rw [← hwv] at hgr hat
        obtain ⟨h5, G5⟩ := h4.pushW (ng l).toNat (by omega) Hx.out (i : Int) HO.out hgr (by simpa using hat) hlt3 (by simp; omega)
        refine .inr ⟨rfl, k, _, hk2, hlt, by rw [hl]; exact Hvb.out, h5.to ?_, HG1.out.trans (G2.trans ((Grew.drewN T w2 1).trans ((Grew.alloc T w2.drew _).trans G5)))⟩
        simp only [St.rewatch, hl]
    · clear hx
      go_wp2
      go_ret
      exact .inl ⟨rfl, ⟨_, rfl⟩, fun j h1 h2 => hall j h1 (by omega)⟩
end Go.Proofs.Qxb6600345a

import Derived.Test.Qxb6600345aJ
/-! ZZNewSolver: six arrays are made in whatever order. -/
namespace Go.Proofs.Qxb6600345a
open Go.RowKit
set_option linter.unusedVariables false
set_option linter.unusedSimpArgs false

theorem inf63 : (Try.prog.info? 63).map (fun i => (i.zero, i.size, i.bytes)) = some (some (.int .i8 0), 1, 1) := by kernel_rfl
theorem inf4 : (Try.prog.info? 4).map (fun i => (i.zero, i.size, i.bytes)) = some (some (.bool false), 1, 1) := by kernel_rfl
theorem inf68 : (Try.prog.info? 68).map (fun i => (i.zero, i.size, i.bytes)) = some (some (.float .f64 0), 1, 8) := by kernel_rfl

theorem arr_getD (c : Array Value) (j : Nat) (h : j < c.size) : c[j]? = some (c.getD j undef) := by simp [h]

def subs : List Nat → List (List Nat)
  | [] => [[]]
  | x :: xs => subs xs ++ (subs xs).map (x :: ·)

/-- what may come up is just what is left, at every set that may be left -/
def manyOk (md : Region.Mode) (ops : Array Oper) (lo : List Nat → Array Bool) (z : Nat) (rems : List (List Nat)) : Bool :=
  rems.all fun rem => rem.isEmpty || ((Region.ready md ops (lo rem) == rem) && rem.all fun i => ((lo rem).setIfInBounds i true == lo (rem.erase i)) && rems.contains (rem.erase i) && i != z)

theorem wpAnyZ_many {P : Program} {ops : Array Oper} {Q : Exit → Act → World → Prop} {md : Region.Mode} {z : Nat} {rems : List (List Nat)} {lo : List Nat → Array Bool} {fuel0 : Nat} (hok : manyOk md ops lo z rems = true)
    (Inv : List Nat → Act → World → Prop)
    (hstep : ∀ rem i, rem ∈ rems → i ∈ rem → ∀ a w, Inv rem a w → ∃ o, ops[i]? = some o ∧ o.guard = none ∧ ∀ K : Act → World → Prop, (∀ a' w', Inv (rem.erase i) a' w' → K a' w') → o.wp P a w K Q)
    (hend : ∀ a w, Inv [] a w → wpAnyZ P md ops Q (fun _ => True) z fuel0 (lo []) a w) :
    ∀ (k : Nat) (rem : List Nat), rem.length = k → rem ∈ rems → ∀ a w, Inv rem a w → wpAnyZ P md ops Q (fun _ => True) z (k + fuel0) (lo rem) a w
  | 0, rem, hl, _, a, w, hi => by
    obtain rfl := List.eq_nil_of_length_eq_zero hl
    rw [Nat.zero_add]
    exact hend a w hi
  | k + 1, rem, hl, hm, a, w, hi => by
    have h1 := List.all_eq_true.1 hok rem hm
    have hne : rem.isEmpty = false := by cases rem with | nil => simp at hl | cons _ _ => rfl
    rw [hne, Bool.false_or, Bool.and_eq_true, beq_iff_eq] at h1
    obtain ⟨hr, h2⟩ := h1
    rw [show k + 1 + fuel0 = (k + fuel0) + 1 by omega]
    refine ⟨fun h0 => (by rw [hr] at h0; rw [h0] at hl; simp at hl), fun i hir => ?_⟩
    rw [hr] at hir
    have h3 := List.all_eq_true.1 h2 i hir
    simp only [Bool.and_eq_true, beq_iff_eq, bne_iff_ne, ne_eq] at h3
    obtain ⟨⟨h4, h5⟩, h6⟩ := h3
    have hle : (rem.erase i).length = k := by rw [List.length_erase_of_mem hir]; omega
    obtain ⟨o, ho, hg, hK⟩ := hstep rem i hm hir a w hi
    unfold wpOp
    simp only [ho, Region.wanted, hg, if_true]
    refine .inl (hK _ fun a' w' hi' => ⟨.inr trivial, ?_⟩)
    rw [h4]
    exact wpAnyZ_many hok Inv hstep hend k (rem.erase i) hle (by simpa using h5) a' w' hi'

theorem wpAnyZ_cast {P : Program} {ops : Array Oper} {Q : Exit → Act → World → Prop} {md : Region.Mode} {S : World → Prop} {z fuel : Nat} {listed listed' : Array Bool} {a : Act} {w : World} (e : listed = listed') (h : wpAnyZ P md ops Q S z fuel listed' a w) : wpAnyZ P md ops Q S z fuel listed a w := e ▸ h

theorem subs_mem : ∀ (M rem : List Nat), rem ∈ subs M → ∀ i ∈ rem, i ∈ M
  | [], rem, h, i, hi => by simp [subs] at h; subst h; simp at hi
  | x :: xs, rem, h, i, hi => by
    simp only [subs, List.mem_append, List.mem_map] at h
    rcases h with h | ⟨r, hr, rfl⟩
    · exact List.mem_cons_of_mem _ (subs_mem xs rem h i hi)
    · rcases List.mem_cons.1 hi with rfl | hi
      · simp
      · exact List.mem_cons_of_mem _ (subs_mem xs r hr i hi)

theorem wp_make {P : Program} {o : Oper} {a : Act} {w : World} {K : Act → World → Prop} {Q : Exit → Act → World → Prop} {t s n e : Nat} {z : Value} (hop : o.op = .makeSlice t (.tmp s) (.tmp s)) (hs : a.tmps[s]? = some (.int .i64 (n : Int)))
    (hmk : (Instr.makeSlice t (.int .i64 (n : Int)) (.int .i64 (n : Int))).run P w = .ok (.slice (some ⟨w.heap.size, 0, none⟩) n n) (w.alloc (.cells (madeCells #[z] n) e)))
    (hK : K (a.put o.dst (.slice (some ⟨w.heap.size, 0, none⟩) n n)) (w.alloc (.cells (madeCells #[z] n) e))) : o.wp P a w K Q := by
  have he : a.eval (.tmp s) = .int .i64 (n : Int) := by simp [Act.eval, hs]
  unfold Oper.wp
  simp [execOp, hop, he, hmk, Result.andThen]
  exact hK

def lo42 (rem : List Nat) : Array Bool := #[true, true, true, !rem.contains 3, true, !rem.contains 5, true, !rem.contains 7, true, !rem.contains 9, true, !rem.contains 11, true, !rem.contains 13, false, false, false]

def fr42 (n : Nat) (cv wv : Value) : Nat → Value
  | 0 | 9 | 11 | 13 | 15 | 17 | 19 => .int .i64 n
  | 1 | 7 => cv
  | 2 | 8 => wv
  | 6 => .pointer none
  | _ => undef

/-- operation i of the six: its array type, its element type, its zero, its bytes, its slots -/
structure Mk where
  i : Nat
  t : Nat
  e : Nat
  z : Value
  by8 : Nat
  src : Nat
  dst : Nat

def mks : List Mk := [⟨3, 66, 63, .int .i8 0, 1, 9, 10⟩, ⟨5, 23, 21, .int .i32 0, 4, 11, 12⟩, ⟨7, 23, 21, .int .i32 0, 4, 13, 14⟩, ⟨9, 67, 68, .float .f64 0, 8, 15, 16⟩, ⟨11, 50, 4, .bool false, 1, 17, 18⟩, ⟨13, 50, 4, .bool false, 1, 19, 20⟩]

def NsInv (n : Nat) (fr : Nat → Value) (W0 : World) (rem : List Nat) (a : Act) (w : World) : Prop :=
  a.defers = [] ∧ a.tmps.size = 23 ∧ (∀ j, j < 23 → j ≠ 10 → j ≠ 12 → j ≠ 14 → j ≠ 16 → j ≠ 18 → j ≠ 20 → a.tmps[j]? = some (fr j)) ∧ rem.Nodup ∧
  (∃ bl : Nat → Nat, (∀ mk ∈ mks, mk.i ∉ rem → a.tmps[mk.dst]? = some (.slice (some ⟨bl mk.i, 0, none⟩) n n) ∧ w.rowIs (bl mk.i) mk.e n (fun _ => mk.z) ∧ W0.heap.size ≤ bl mk.i) ∧
    ∀ m1 ∈ mks, ∀ m2 ∈ mks, m1.i ∉ rem → m2.i ∉ rem → m1.i ≠ m2.i → bl m1.i ≠ bl m2.i) ∧ Below W0.heap.size W0 w

theorem ns_step {n : Nat} {fr : Nat → Value} {W0 : World} {rem : List Nat} {a : Act} {w : World} (h : NsInv n fr W0 rem a w) {mk : Mk} (hmk : mk ∈ mks) :
    NsInv n fr W0 (rem.erase mk.i) (a.put (some mk.dst) (.slice (some ⟨w.heap.size, 0, none⟩) n n)) (w.alloc (.cells (madeCells #[mk.z] n) mk.e)) := by
  obtain ⟨h1, h2, h3, h4, ⟨bl, h5, h6⟩, h7⟩ := h
  have hd : mk.dst = 10 ∨ mk.dst = 12 ∨ mk.dst = 14 ∨ mk.dst = 16 ∨ mk.dst = 18 ∨ mk.dst = 20 := by
    simp only [mks, List.mem_cons, List.not_mem_nil, or_false] at hmk
    rcases hmk with rfl | rfl | rfl | rfl | rfl | rfl <;> simp
  have hinj : ∀ m2 ∈ mks, m2.i ≠ mk.i → m2.dst ≠ mk.dst := by
    intro m2 hm2
    simp only [mks, List.mem_cons, List.not_mem_nil, or_false] at hmk hm2
    rcases hmk with rfl | rfl | rfl | rfl | rfl | rfl <;> rcases hm2 with rfl | rfl | rfl | rfl | rfl | rfl <;> simp
  have hput : ∀ j, (a.put (some mk.dst) (.slice (some ⟨w.heap.size, 0, none⟩) n n)).tmps[j]? = if mk.dst = j then (if mk.dst < 23 then some (.slice (some ⟨w.heap.size, 0, none⟩) n n) else none) else a.tmps[j]? := by
    intro j
    show (a.tmps.setIfInBounds _ _)[j]? = _
    rw [Array.getElem?_setIfInBounds, h2]
  have hout : ∀ m2 ∈ mks, m2.i ∉ rem.erase mk.i → m2.i ≠ mk.i → m2.i ∉ rem := fun m2 _ hn hne hm => hn ((List.mem_erase_of_ne hne).2 hm)
  refine ⟨h1, by simpa [Act.put] using h2, ?_, h4.erase _, ⟨fun j => if j = mk.i then w.heap.size else bl j, ?_, ?_⟩, h7.alloc h7.size _⟩
  · intro j hj n1 n2 n3 n4 n5 n6
    rw [hput, if_neg (by omega)]
    exact h3 j hj n1 n2 n3 n4 n5 n6
  · intro m2 hm2 hn
    by_cases e : m2.i = mk.i
    · have em : m2 = mk := by
        simp only [mks, List.mem_cons, List.not_mem_nil, or_false] at hmk hm2
        rcases hmk with rfl | rfl | rfl | rfl | rfl | rfl <;> rcases hm2 with rfl | rfl | rfl | rfl | rfl | rfl <;> simp at e ⊢
      subst em
      simp only [if_true]
      refine ⟨?_, World.rowIs_made w m2.z n m2.e, h7.size⟩
      rw [hput, if_pos rfl, if_pos (by omega)]
    · simp only [if_neg e]
      obtain ⟨g1, g2, g3⟩ := h5 m2 hm2 (hout m2 hm2 hn e)
      exact ⟨by rw [hput, if_neg (fun e2 => hinj m2 hm2 e e2.symm)]; exact g1, g2.alloc _, g3⟩
  · intro m1 hm1 m2 hm2 hn1 hn2 hne
    by_cases e1 : m1.i = mk.i
    · by_cases e2 : m2.i = mk.i
      · omega
      · simp only [if_pos e1, if_neg e2]
        have := (h5 m2 hm2 (hout m2 hm2 hn2 e2)).2.1.lt
        omega
    · by_cases e2 : m2.i = mk.i
      · simp only [if_neg e1, if_pos e2]
        have := (h5 m1 hm1 (hout m1 hm1 hn1 e1)).2.1.lt
        omega
      · simp only [if_neg e1, if_neg e2]
        exact h6 m1 hm1 m2 hm2 (hout m1 hm1 hn1 e1) (hout m2 hm2 hn2 e2) hne

def NsPost (n : Nat) (cv wv : Value) (w : World) (e : Ending) (w' : World) : Prop :=
  ∃ sb ab lb rb nb F, e = .returned (.pointer (some ⟨sb, 0, none⟩)) ∧ w'.rowIs sb 73 18 F ∧ F 0 = cv ∧ F 1 = wv ∧ F 2 = .slice (some ⟨ab, 0, none⟩) n n ∧ F 3 = .slice (some ⟨lb, 0, none⟩) n n ∧ F 4 = .slice (some ⟨rb, 0, none⟩) n n ∧
    F 5 = .slice none 0 0 ∧ F 6 = .slice none 0 0 ∧ F 7 = .int .i64 0 ∧ F 14 = .slice (some ⟨nb, 0, none⟩) n n ∧
    w'.rowIs ab 63 n (fun _ => .int .i8 0) ∧ w'.rowIs lb 21 n (fun _ => .int .i32 0) ∧ w'.rowIs rb 21 n (fun _ => .int .i32 0) ∧ w'.rowIs nb 4 n (fun _ => .bool false) ∧
    w.heap.size ≤ sb ∧ w.heap.size ≤ ab ∧ w.heap.size ≤ lb ∧ w.heap.size ≤ rb ∧ w.heap.size ≤ nb ∧ [sb, ab, lb, rb, nb].Nodup ∧ Below w.heap.size w w'

set_option maxRecDepth 100000 in
set_option maxHeartbeats 1600000 in
theorem newSolver_any (n : Nat) (hn : n ≤ 4096) (ca wa : Option Addr) (m cm k ck : Nat) (w : World) :
    Calls Try.prog 42 #[.int .i64 n, .slice ca m cm, .slice wa k ck] w fun e w' => NsPost n (.slice ca m cm) (.slice wa k ck) w e w' := by
  go_enter Try.func42, Try.ntmps42
  go_wp2
  refine wp_region_Z (fun _ => True) 16 (by kernel_rfl) ?_
  refine wpAnyZ_take (i := 0) (v := ?_) rfl (by kernel_rfl) (by kernel_rfl) (by kernel_rfl) (by kernel_rfl) (fun _ _ _ h => h) ⟨by rfl, ?_⟩ trivial ?_
  rotate_left
  · intro w hSw; refine .inl ?_; go_simp; with_reducible rfl
  simp only [Act.put, List.getElem_toArray, List.getElem_cons_zero, List.getElem_cons_succ, List.setIfInBounds_toArray, List.set_cons_zero, List.set_cons_succ]
  refine wpAnyZ_take (i := 1) (v := ?_) rfl (by kernel_rfl) (by kernel_rfl) (by kernel_rfl) (by kernel_rfl) (fun _ _ _ h => h) ⟨by rfl, ?_⟩ trivial ?_
  rotate_left
  · intro w hSw; refine .inl ?_; go_simp; with_reducible rfl
  simp only [Act.put, List.getElem_toArray, List.getElem_cons_zero, List.getElem_cons_succ, List.setIfInBounds_toArray, List.set_cons_zero, List.set_cons_succ]
  refine wpAnyZ_take (i := 2) (v := ?_) rfl (by kernel_rfl) (by kernel_rfl) (by kernel_rfl) (by kernel_rfl) (fun _ _ _ h => h) ⟨by rfl, ?_⟩ trivial ?_
  rotate_left
  · intro w hSw; refine .inl ?_; go_simp; with_reducible rfl
  simp only [Act.put, List.getElem_toArray, List.getElem_cons_zero, List.getElem_cons_succ, List.setIfInBounds_toArray, List.set_cons_zero, List.set_cons_succ]
  refine wpAnyZ_take (i := 4) (v := ?_) rfl (by kernel_rfl) (by kernel_rfl) (by kernel_rfl) (by kernel_rfl) (fun _ _ _ h => h) ⟨by rfl, ?_⟩ trivial ?_
  rotate_left
  · intro w hSw; refine .inl ?_; go_simp; with_reducible rfl
  simp only [Act.put, List.getElem_toArray, List.getElem_cons_zero, List.getElem_cons_succ, List.setIfInBounds_toArray, List.set_cons_zero, List.set_cons_succ]
  refine wpAnyZ_take (i := 6) (v := ?_) rfl (by kernel_rfl) (by kernel_rfl) (by kernel_rfl) (by kernel_rfl) (fun _ _ _ h => h) ⟨by rfl, ?_⟩ trivial ?_
  rotate_left
  · intro w hSw; refine .inl ?_; go_simp; with_reducible rfl
  simp only [Act.put, List.getElem_toArray, List.getElem_cons_zero, List.getElem_cons_succ, List.setIfInBounds_toArray, List.set_cons_zero, List.set_cons_succ]
  refine wpAnyZ_take (i := 8) (v := ?_) rfl (by kernel_rfl) (by kernel_rfl) (by kernel_rfl) (by kernel_rfl) (fun _ _ _ h => h) ⟨by rfl, ?_⟩ trivial ?_
  rotate_left
  · intro w hSw; refine .inl ?_; go_simp; with_reducible rfl
  simp only [Act.put, List.getElem_toArray, List.getElem_cons_zero, List.getElem_cons_succ, List.setIfInBounds_toArray, List.set_cons_zero, List.set_cons_succ]
  refine wpAnyZ_take (i := 10) (v := ?_) rfl (by kernel_rfl) (by kernel_rfl) (by kernel_rfl) (by kernel_rfl) (fun _ _ _ h => h) ⟨by rfl, ?_⟩ trivial ?_
  rotate_left
  · intro w hSw; refine .inl ?_; go_simp; with_reducible rfl
  simp only [Act.put, List.getElem_toArray, List.getElem_cons_zero, List.getElem_cons_succ, List.setIfInBounds_toArray, List.set_cons_zero, List.set_cons_succ]
  refine wpAnyZ_take (i := 12) (v := ?_) rfl (by kernel_rfl) (by kernel_rfl) (by kernel_rfl) (by kernel_rfl) (fun _ _ _ h => h) ⟨by rfl, ?_⟩ trivial ?_
  rotate_left
  · intro w hSw; refine .inl ?_; go_simp; with_reducible rfl
  simp only [Act.put, List.getElem_toArray, List.getElem_cons_zero, List.getElem_cons_succ, List.setIfInBounds_toArray, List.set_cons_zero, List.set_cons_succ]
  refine wpAnyZ_cast (listed' := lo42 [3, 5, 7, 9, 11, 13]) (by kernel_rfl) ?_
  refine wpAnyZ_many (rems := subs [3, 5, 7, 9, 11, 13]) (lo := lo42) (fuel0 := 3) (by kernel_rfl) (NsInv n (fr42 n (.slice ca m cm) (.slice wa k ck)) w.drew) ?_ ?_ 6 [3, 5, 7, 9, 11, 13] rfl (by decide) _ _ ?_
  · intro rem i hm hi a w' hinv
    have hiM := subs_mem _ _ hm i hi
    have h9 : ∀ j, j = 9 ∨ j = 11 ∨ j = 13 ∨ j = 15 ∨ j = 17 ∨ j = 19 → a.tmps[j]? = some (.int .i64 (n : Int)) := by
      intro j hj
      have h3 := hinv.2.2.1
      rcases hj with rfl | rfl | rfl | rfl | rfl | rfl <;> exact h3 _ (by decide) (by decide) (by decide) (by decide) (by decide) (by decide) (by decide)
    simp only [List.mem_cons, List.not_mem_nil, or_false] at hiM
    rcases hiM with rfl | rfl | rfl | rfl | rfl | rfl
    · exact ⟨_, rfl, rfl, fun K hK => wp_make rfl (h9 9 (by decide)) (run_make_row' (P := Try.prog) 66 63 (.int .i8 0) 1 Try.underlying66 inf63 rfl .i64 .i64 n (by omega) (by omega) w') (hK _ _ (ns_step hinv (mk := ⟨3, 66, 63, .int .i8 0, 1, 9, 10⟩) (by simp [mks])))⟩
    · exact ⟨_, rfl, rfl, fun K hK => wp_make rfl (h9 11 (by decide)) (run_make_row' (P := Try.prog) 23 21 (.int .i32 0) 4 Try.underlying23 info21 rfl .i64 .i64 n (by omega) (by omega) w') (hK _ _ (ns_step hinv (mk := ⟨5, 23, 21, .int .i32 0, 4, 11, 12⟩) (by simp [mks])))⟩
    · exact ⟨_, rfl, rfl, fun K hK => wp_make rfl (h9 13 (by decide)) (run_make_row' (P := Try.prog) 23 21 (.int .i32 0) 4 Try.underlying23 info21 rfl .i64 .i64 n (by omega) (by omega) w') (hK _ _ (ns_step hinv (mk := ⟨7, 23, 21, .int .i32 0, 4, 13, 14⟩) (by simp [mks])))⟩
    · exact ⟨_, rfl, rfl, fun K hK => wp_make rfl (h9 15 (by decide)) (run_make_row' (P := Try.prog) 67 68 (.float .f64 0) 8 Try.underlying67 inf68 rfl .i64 .i64 n (by omega) (by omega) w') (hK _ _ (ns_step hinv (mk := ⟨9, 67, 68, .float .f64 0, 8, 15, 16⟩) (by simp [mks])))⟩
    · exact ⟨_, rfl, rfl, fun K hK => wp_make rfl (h9 17 (by decide)) (run_make_row' (P := Try.prog) 50 4 (.bool false) 1 Try.underlying50 inf4 rfl .i64 .i64 n (by omega) (by omega) w') (hK _ _ (ns_step hinv (mk := ⟨11, 50, 4, .bool false, 1, 17, 18⟩) (by simp [mks])))⟩
    · exact ⟨_, rfl, rfl, fun K hK => wp_make rfl (h9 19 (by decide)) (run_make_row' (P := Try.prog) 50 4 (.bool false) 1 Try.underlying50 inf4 rfl .i64 .i64 n (by omega) (by omega) w') (hK _ _ (ns_step hinv (mk := ⟨13, 50, 4, .bool false, 1, 19, 20⟩) (by simp [mks])))⟩
  · intro a w' hinv
    obtain ⟨h1, h2, h3, _, ⟨bl, h5, h6⟩, hb⟩ := hinv
    obtain ⟨d3, r3, l3⟩ := h5 ⟨3, 66, 63, .int .i8 0, 1, 9, 10⟩ (by simp [mks]) (by simp)
    obtain ⟨d5, r5, l5⟩ := h5 ⟨5, 23, 21, .int .i32 0, 4, 11, 12⟩ (by simp [mks]) (by simp)
    obtain ⟨d7, r7, l7⟩ := h5 ⟨7, 23, 21, .int .i32 0, 4, 13, 14⟩ (by simp [mks]) (by simp)
    obtain ⟨d9, r9, l9⟩ := h5 ⟨9, 67, 68, .float .f64 0, 8, 15, 16⟩ (by simp [mks]) (by simp)
    obtain ⟨d11, r11, l11⟩ := h5 ⟨11, 50, 4, .bool false, 1, 17, 18⟩ (by simp [mks]) (by simp)
    obtain ⟨d13, r13, l13⟩ := h5 ⟨13, 50, 4, .bool false, 1, 19, 20⟩ (by simp [mks]) (by simp)
    have q35 : bl 3 ≠ bl 5 := h6 ⟨3, 66, 63, .int .i8 0, 1, 9, 10⟩ (by simp [mks]) ⟨5, 23, 21, .int .i32 0, 4, 11, 12⟩ (by simp [mks]) (by simp) (by simp) (by simp)
    have q37 : bl 3 ≠ bl 7 := h6 ⟨3, 66, 63, .int .i8 0, 1, 9, 10⟩ (by simp [mks]) ⟨7, 23, 21, .int .i32 0, 4, 13, 14⟩ (by simp [mks]) (by simp) (by simp) (by simp)
    have q3d : bl 3 ≠ bl 13 := h6 ⟨3, 66, 63, .int .i8 0, 1, 9, 10⟩ (by simp [mks]) ⟨13, 50, 4, .bool false, 1, 19, 20⟩ (by simp [mks]) (by simp) (by simp) (by simp)
    have q57 : bl 5 ≠ bl 7 := h6 ⟨5, 23, 21, .int .i32 0, 4, 11, 12⟩ (by simp [mks]) ⟨7, 23, 21, .int .i32 0, 4, 13, 14⟩ (by simp [mks]) (by simp) (by simp) (by simp)
    have q5d : bl 5 ≠ bl 13 := h6 ⟨5, 23, 21, .int .i32 0, 4, 11, 12⟩ (by simp [mks]) ⟨13, 50, 4, .bool false, 1, 19, 20⟩ (by simp [mks]) (by simp) (by simp) (by simp)
    have q7d : bl 7 ≠ bl 13 := h6 ⟨7, 23, 21, .int .i32 0, 4, 13, 14⟩ (by simp [mks]) ⟨13, 50, 4, .bool false, 1, 19, 20⟩ (by simp [mks]) (by simp) (by simp) (by simp)
    have ha : a = { tmps := #[.int .i64 n, .slice ca m cm, .slice wa k ck, undef, undef, undef, .pointer none, .slice ca m cm, .slice wa k ck, .int .i64 n, .slice (some ⟨bl 3, 0, none⟩) n n, .int .i64 n, .slice (some ⟨bl 5, 0, none⟩) n n, .int .i64 n, .slice (some ⟨bl 7, 0, none⟩) n n, .int .i64 n, .slice (some ⟨bl 9, 0, none⟩) n n, .int .i64 n, .slice (some ⟨bl 11, 0, none⟩) n n, .int .i64 n, .slice (some ⟨bl 13, 0, none⟩) n n, undef, undef], defers := [] } := by
      obtain ⟨tm, df⟩ := a
      simp only at h1 h2 h3 d3 d5 d7 d9 d11 d13
      subst h1
      congr 1
      refine Array.ext_getElem? fun j => ?_
      by_cases hj : j < 23
      · have hc : j = 10 ∨ j = 12 ∨ j = 14 ∨ j = 16 ∨ j = 18 ∨ j = 20 ∨ (j ≠ 10 ∧ j ≠ 12 ∧ j ≠ 14 ∧ j ≠ 16 ∧ j ≠ 18 ∧ j ≠ 20) := by omega
        rcases hc with rfl | rfl | rfl | rfl | rfl | rfl | ⟨n1, n2, n3, n4, n5, n6⟩
        · rw [d3]; rfl
        · rw [d5]; rfl
        · rw [d7]; rfl
        · rw [d9]; rfl
        · rw [d11]; rfl
        · rw [d13]; rfl
        · rw [h3 j hj n1 n2 n3 n4 n5 n6]
          have : j = 0 ∨ j = 1 ∨ j = 2 ∨ j = 3 ∨ j = 4 ∨ j = 5 ∨ j = 6 ∨ j = 7 ∨ j = 8 ∨ j = 9 ∨ j = 11 ∨ j = 13 ∨ j = 15 ∨ j = 17 ∨ j = 19 ∨ j = 21 ∨ j = 22 := by omega
          rcases this with rfl | rfl | rfl | rfl | rfl | rfl | rfl | rfl | rfl | rfl | rfl | rfl | rfl | rfl | rfl | rfl | rfl <;> rfl
      · rw [Array.getElem?_eq_none (by omega), Array.getElem?_eq_none (by simp; omega)]
    subst ha
    clear h1 h2 h3 h5 h6 d3 d5 d7 d9 d11 d13
    refine wpAnyZ_one (i := 14) rfl rfl (by kernel_rfl) fun K hK => ?_
    go_simp
    refine hK _ _ trivial ?_
    clear hK K
    refine wpAnyZ_one (i := 15) rfl rfl (by kernel_rfl) fun K hK => ?_
    go_simp
    refine hK _ _ trivial ?_
    clear hK K
    refine wpAnyZ_end rfl rfl (by kernel_rfl) (by kernel_rfl) fun K hK => ?_
    go_simp
    refine hK _ _ ?_
    clear hK K
    go_wp2
    go_ret
    show NsPost n (.slice ca m cm) (.slice wa k ck) w _ (w'.alloc (.cells #[.slice ca m cm, .slice wa k ck, .slice (some ⟨bl 3, 0, none⟩) n n, .slice (some ⟨bl 5, 0, none⟩) n n, .slice (some ⟨bl 7, 0, none⟩) n n, .slice none 0 0, .slice none 0 0, .int .i64 0, .slice (some ⟨bl 9, 0, none⟩) n n, .float .f64 4607182418800017408, .slice none 0 0, .slice none 0 0, .slice none 0 0, .slice (some ⟨bl 11, 0, none⟩) n n, .slice (some ⟨bl 13, 0, none⟩) n n, .bool false, .slice none 0 0, .slice none 0 0] 73))
    have k3 := r3.lt
    have k5 := r5.lt
    have k7 := r7.lt
    have k13 := r13.lt
    have hws : w.drew.heap.size = w.heap.size := rfl
    refine ⟨w'.heap.size, bl 3, bl 5, bl 7, bl 13, fun j => (#[.slice ca m cm, .slice wa k ck, .slice (some ⟨bl 3, 0, none⟩) n n, .slice (some ⟨bl 5, 0, none⟩) n n, .slice (some ⟨bl 7, 0, none⟩) n n, .slice none 0 0, .slice none 0 0, .int .i64 0, .slice (some ⟨bl 9, 0, none⟩) n n, .float .f64 4607182418800017408, .slice none 0 0, .slice none 0 0, .slice none 0 0, .slice (some ⟨bl 11, 0, none⟩) n n, .slice (some ⟨bl 13, 0, none⟩) n n, .bool false, .slice none 0 0, .slice none 0 0] : Array Value).getD j undef, rfl, World.rowIs_alloc w' _ 73 _ (fun j hj => arr_getD _ j hj), rfl, rfl, rfl, rfl, rfl, rfl, rfl, rfl, rfl, r3.alloc _, r5.alloc _, r7.alloc _, r13.alloc _, hb.size, l3, l5, l7, l13, ?_, ?_⟩
    · simp only [List.nodup_cons, List.mem_cons, List.not_mem_nil, or_false, not_or, not_false_eq_true, and_true, List.nodup_nil]
      exact ⟨⟨by omega, by omega, by omega, by omega⟩, ⟨q35, q37, q3d⟩, ⟨q57, q5d⟩, q7d⟩
    · exact (Below.refl _ w).drew.trans (hb.alloc hb.size _)
  · refine ⟨rfl, rfl, ?_, by decide, ⟨fun _ => 0, ?_, ?_⟩, Below.refl _ _⟩
    · intro j hj n1 n2 n3 n4 n5 n6
      have : j = 0 ∨ j = 1 ∨ j = 2 ∨ j = 3 ∨ j = 4 ∨ j = 5 ∨ j = 6 ∨ j = 7 ∨ j = 8 ∨ j = 9 ∨ j = 11 ∨ j = 13 ∨ j = 15 ∨ j = 17 ∨ j = 19 ∨ j = 21 ∨ j = 22 := by omega
      rcases this with rfl | rfl | rfl | rfl | rfl | rfl | rfl | rfl | rfl | rfl | rfl | rfl | rfl | rfl | rfl | rfl | rfl <;> rfl
    · intro mk hmk hn
      exfalso
      simp only [mks, List.mem_cons, List.not_mem_nil, or_false] at hmk
      rcases hmk with rfl | rfl | rfl | rfl | rfl | rfl <;> simp at hn
    · intro m1 hm1 m2 hm2 hn1
      exfalso
      simp only [mks, List.mem_cons, List.not_mem_nil, or_false] at hm1
      rcases hm1 with rfl | rfl | rfl | rfl | rfl | rfl <;> simp at hn1
end Go.Proofs.Qxb6600345a

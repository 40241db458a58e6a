import Derived.Test.Qxb6600345aQ
/-! 'run', and the readers. -/
namespace Go.Proofs.Qxb6600345a
open Go.RowKit
set_option linter.unusedVariables false
set_option linter.unusedSimpArgs false

def RunPost (n m : Nat) (len : Nat → Nat) (cl0 : Nat → Nat → Int) (B : Nat) (T : Nat → Nat) (w : World) (sb : Nat) (e : Ending) (w' : World) : Prop :=
  ∃ r σ' T', e = .returned (.int .i32 r) ∧ Rep n m len B none T' w' sb σ' ∧ Grew T T' w w' ∧ Base n m len cl0 σ' ∧
    ((r = -1 ∧ WInv n m σ' 0 [] ∧ σ'.qh = σ'.tr.length) ∨ (0 ≤ r ∧ r < (m : Int)))

def RunRel (n m : Nat) (len : Nat → Nat) (cl0 : Nat → Nat → Int) (B : Nat) (T : Nat → Nat) (w : World) (sb dn : Nat) (g : Nat) (iv : Value) (wr : World) : Prop :=
  ∃ (i : Nat) (σ : St) (Tr : Nat → Nat), i ≤ dn ∧ g = dn - i ∧ iv = .int .i64 i ∧ Rep n m len B none Tr wr sb σ ∧ Base n m len cl0 σ ∧ WInv n m σ 0 [] ∧ σ.qh = σ.tr.length ∧ Grew T Tr w wr

/-- one decision's own numbers -/
theorem decide_len {n m : Nat} {len : Nat → Nat} {cl0 : Nat → Nat → Int} {σ : St} {d : Int} (hbd : Base n m len cl0 (σ.level.assign d (-1))) : σ.tr.length + 1 ≤ n ∧ σ.tl.length + 1 ≤ n := by
  have htl1 := hbd.trlen
  have htl2 := hbd.tllen
  exact ⟨by simpa [St.assign, St.level] using htl1, by simpa [St.assign, St.level] using htl2⟩

set_option maxRecDepth 100000 in
set_option maxHeartbeats 2000000 in
theorem run_any {n m B sb : Nat} {len : Nat → Nat} {cl0 : Nat → Nat → Int} {T : Nat → Nat} {w : World} {σ0 : St} (D : Nat → Prop) (da : Option Addr) (dn dc : Nat) (dz : Nat → Int) (hf : Form n m len cl0) (h : Rep n m len B none T w sb σ0) (hb : Base n m len cl0 σ0) (hw : WInv n m σ0 0 []) (hq : σ0.qh = σ0.tr.length) (hB : B ≤ w.heap.size)
    (hI : SlI D w da dn dz) (hD : ∀ b, D b → b < w.heap.size ∧ T b = 0) (hdz : ∀ j, j < dn → 0 ≤ dz j ∧ dz j < 2 * (n : Int)) (hdn : dn ≤ 262144) :
    Calls Try.prog 22 #[.pointer (some ⟨sb, 0, none⟩), .slice da dn dc] w fun e w' => RunPost n m len cl0 B T w sb e w' := by
  have hn := hf.n1
  have HS : Hid (RunRel n m len cl0 B T w sb dn dn (.int .i64 0) w) := ⟨0, σ0, T, by omega, rfl, rfl, h, hb, hw, hq, Grew.refl _ _⟩
  have Hdz := hide hdz
  have HI := hide hI
  clear h hb hw hq hdz hI
  go_enter Try.func22, Try.ntmps22
  go_wp2
  go_loopg [5] dn (fun g iv wr => RunRel n m len cl0 B T w sb dn g iv wr)
  case atStart => exact HS.out
  case round =>
    clear HS
    obtain ⟨i, σ, Tr, hi, hg, rfl, hRep, hb, hw, hq, hG⟩ := hrel
    have Hg := hide hg
    have Hq := hide hq
    clear hg hq
    by_cases hlt : i < dn
    · obtain ⟨b, o, rfl, hDb, hcd⟩ := HI.out i hlt
      have hcd' : wr.cell? ⟨b, o + i, none⟩ = some (.int .i32 (dz i)) := (World.cell?_of_block (w := w) (hG.block b (hD b hDb).1 (hD b hDb).2).1).trans hcd
      have hdr := Hdz.out i hlt
      clear hcd
      by_cases hv : σ.val (dz i) = 0
      · have hvb : (σ.val (dz i) != 0) = false := by simp [hv]
        obtain ⟨hbd, hwd⟩ := decide_ok hf hb hw hdr.1 hdr.2 hv
        obtain ⟨htr0, htl0⟩ := decide_len hbd
        clear hv
        go_wp2_with (first | (go_at_call 15; refine (zzLit hRep (dz i) hdr.1 hdr.2 hn hb.av).mono ?_; rintro e w' ⟨rfl, q, rfl⟩))
        have hRep1 := hRep.heap (w' := wr.drewN q) rfl
        have hG1 := hG.trans (Grew.drewN Tr wr q)
        have hB1 := Nat.le_trans hB hG1.size
        clear hRep hG hcd'
        generalize wr.drewN q = w5 at *
        refine (zzLevel hRep1 (by omega) (by omega) hB1).mono ?_
        rintro e w7 ⟨rfl, T7, hRep7, hGs7⟩
        have hG7 := hG1.trans hGs7
        have hB7 := Nat.le_trans hB hG7.size
        clear hRep1 hG1 hGs7
        go_wp2_with fail
        refine (zzAssign hRep7 (dz i) (-1) hdr.1 hdr.2 hn (by show σ.tr.length ≤ 4096; omega) (by show (σ.tl ++ [_]).length ≤ 4096; simp; omega) hB7).mono ?_
        rintro e w8 ⟨rfl, T8, hRep8, hGs8⟩
        have hG8 := hG7.trans hGs8
        have hB8 := Nat.le_trans hB hG8.size
        clear hRep7 hG7 hGs8
        go_wp2_with fail
        refine (zzProp hf hRep8 hbd hwd hB8).mono ?_
        rintro e w9 ⟨c, σ2, T9, rfl, hRep9, hGs9, hb9, hx9, hres⟩
        have hG9 := hG8.trans hGs9
        clear hRep8 hG8 hGs9
        rcases hres with ⟨rfl, hw9, hq9⟩ | ⟨hc0, hc1, hall⟩
        · have Hq9 := hide hq9
          clear hq9
          go_wp2
          go_roundg (dn - (i + 1))
          case measure => rw [Hg.out]; omega
          case rel => exact ⟨i + 1, σ2, T9, by omega, rfl, by go_num, hRep9, hb9, hw9, Hq9.out, hG9⟩
        · clear hall
          go_wp2
          go_ret
          exact ⟨c, σ2, T9, rfl, hRep9, hG9, hb9, .inr ⟨hc0, hc1⟩⟩
      · have hvb : (σ.val (dz i) != 0) = true := by simp [hv]
        clear hv
        go_wp2_with (first | (go_at_call 15; refine (zzLit hRep (dz i) hdr.1 hdr.2 hn hb.av).mono ?_; rintro e w' ⟨rfl, q, rfl⟩))
        go_roundg (dn - (i + 1))
        case measure => rw [Hg.out]; omega
        case rel => exact ⟨i + 1, σ, Tr, by omega, rfl, by go_num, hRep.heap rfl, hb, hw, Hq.out, hG.trans (Grew.drewN Tr wr q)⟩
    · go_wp2
      go_ret
      exact ⟨-1, σ, Tr, rfl, hRep, hG, hb, .inl ⟨rfl, hw, Hq.out⟩⟩

section
variable {n m B sb : Nat} {len : Nat → Nat} {x : Option Nat} {T : Nat → Nat} {w : World} {σ : St}

set_option maxHeartbeats 400000 in
theorem zzTrailLen (h : Rep n m len B x T w sb σ) : Calls Try.prog 23 #[.pointer (some ⟨sb, 0, none⟩)] w fun e w' => e = .returned (.int .i64 σ.tr.length) ∧ w' = w := by
  obtain ⟨L, h⟩ := h
  obtain ⟨ta, tc, htv⟩ := ownsRow_len h.oT
  have c5 := h.fS.cell (i := 5) (by decide)
  rw [h.f5, htv] at c5
  clear htv
  go_enter Try.func23, Try.ntmps23
  go_wp2
  go_ret
  exact ⟨rfl, rfl⟩

set_option maxHeartbeats 400000 in
theorem zzTrailAt (h : Rep n m len B x T w sb σ) (k : Nat) (t : Int) (hk : σ.tr[k]? = some t) (hl : σ.tr.length ≤ 4096) : Calls Try.prog 24 #[.pointer (some ⟨sb, 0, none⟩), .int .i64 (k : Int)] w fun e w' => e = .returned (.int .i32 t) ∧ w' = w := by
  obtain ⟨L, h⟩ := h
  obtain ⟨g, cap, htv, hc⟩ := oT_cell h hk
  have c5 := h.fS.cell (i := 5) (by decide)
  rw [h.f5, htv] at c5
  have hlt : k < σ.tr.length := (List.getElem?_eq_some_iff.1 hk).1
  have hkl : (k : Int) < (σ.tr.length : Int) := by omega
  clear htv hk
  go_enter Try.func24, Try.ntmps24
  go_wp2
  go_ret
  exact ⟨rfl, rfl⟩

set_option maxHeartbeats 400000 in
theorem zzReason (h : Rep n m len B x T w sb σ) (v : Int) (h0 : 0 ≤ v) (h1 : v < (n : Int)) : Calls Try.prog 26 #[.pointer (some ⟨sb, 0, none⟩), .int .i32 v] w fun e w' => e = .returned (.int .i32 (σ.rs v.toNat)) ∧ w' = w := by
  obtain ⟨L, h⟩ := h
  have c4 := h.fS.cell (i := 4) (by decide)
  rw [h.f4] at c4
  have hc := h.rR.cell (i := v.toNat) (by omega)
  go_enter Try.func26, Try.ntmps26
  go_wp2
  go_ret
  exact ⟨rfl, rfl⟩

set_option maxHeartbeats 400000 in
theorem zzLevelOf (h : Rep n m len B x T w sb σ) (v : Int) (h0 : 0 ≤ v) (h1 : v < (n : Int)) : Calls Try.prog 27 #[.pointer (some ⟨sb, 0, none⟩), .int .i32 v] w fun e w' => e = .returned (.int .i32 (σ.lv v.toNat)) ∧ w' = w := by
  obtain ⟨L, h⟩ := h
  have c3 := h.fS.cell (i := 3) (by decide)
  rw [h.f3] at c3
  have hc := h.rL.cell (i := v.toNat) (by omega)
  go_enter Try.func27, Try.ntmps27
  go_wp2
  go_ret
  exact ⟨rfl, rfl⟩

set_option maxHeartbeats 400000 in
theorem zzDl (h : Rep n m len B x T w sb σ) : Calls Try.prog 28 #[.pointer (some ⟨sb, 0, none⟩)] w fun e w' => e = .returned (.int .i64 σ.tl.length) ∧ w' = w := by
  obtain ⟨L, h⟩ := h
  obtain ⟨ta, tc, htv⟩ := ownsRow_len h.oL
  have c6 := h.fS.cell (i := 6) (by decide)
  rw [h.f6, htv] at c6
  clear htv
  go_enter Try.func28, Try.ntmps28
  go_wp2_with (go_at_call 47; refine (dl_any sb _ ta σ.tl.length tc c6).mono ?_; rintro e w' ⟨rfl, hw9⟩; have hw8 := hw9.symm; clear hw9; subst hw8)
  go_ret
  exact ⟨rfl, rfl⟩

set_option maxHeartbeats 400000 in
theorem zzSeen (h : Rep n m len B x T w sb σ) (v : Int) (h0 : 0 ≤ v) (h1 : v < (n : Int)) : Calls Try.prog 50 #[.pointer (some ⟨sb, 0, none⟩), .int .i32 v] w fun e w' => e = .returned (.bool (σ.sn v.toNat)) ∧ w' = w := by
  obtain ⟨L, h⟩ := h
  have c14 := h.fS.cell (i := 14) (by decide)
  rw [h.f14] at c14
  have hc := h.rN.cell (i := v.toNat) (by omega)
  go_enter Try.func50, Try.ntmps50
  go_wp2
  go_ret
  exact ⟨rfl, rfl⟩

set_option maxHeartbeats 400000 in
theorem allClear (h : Rep n m len B x T w sb σ) (hn : n ≤ 4096) (hs : ∀ v, v < n → σ.sn v = false) : Calls Try.prog 37 #[.pointer (some ⟨sb, 0, none⟩), .int .i64 (n : Int)] w fun e w' => e = .returned (.bool true) ∧ w' = w := by
  go_enter Try.func37, Try.ntmps37
  go_wp2
  go_loopg [5] n (fun g iv wr => ∃ v : Nat, v ≤ n ∧ g = n - v ∧ iv = .int .i64 v ∧ wr = w)
  case atStart => exact ⟨0, by omega, rfl, rfl, rfl⟩
  case round =>
    obtain ⟨v, hv, hg, rfl, hw9⟩ := hrel
    have hw8 := hw9.symm
    clear hw9
    subst hw8
    have Hg := hide hg
    clear hg
    by_cases hlt : v < n
    · have hsv := hs v hlt
      have hwr : IntKind.i32.wrap (v : Int) = (v : Int) := wraps_i32 _ (by omega) (by omega)
      have hcall : Calls Try.prog 50 #[.pointer (some ⟨sb, 0, none⟩), .int .i32 (v : Int)] w fun e w' => e = .returned (.bool false) ∧ w' = w := by
        have := zzSeen h (v : Int) (by omega) (by omega)
        rw [Int.toNat_natCast, hsv] at this
        exact this
      have HC := hide hcall
      clear hcall hsv
      go_wp2_with (go_at_call 50; refine HC.out.mono ?_; rintro e w' ⟨rfl, hw9⟩; have hw8 := hw9.symm; clear hw9; subst hw8)
      go_roundg (n - (v + 1))
      case measure => rw [Hg.out]; omega
      case rel => exact ⟨v + 1, by omega, rfl, by go_num, rfl⟩
    · go_wp2
      go_ret
      exact ⟨rfl, rfl⟩
end
end Go.Proofs.Qxb6600345a

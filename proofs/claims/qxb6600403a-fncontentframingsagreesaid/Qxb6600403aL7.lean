import Derived.Test.Qxb6600403aM
namespace Go.Proofs.Qxb6600403a
open Go.RowKit
set_option linter.unusedVariables false
set_option linter.unusedSimpArgs false

/-- what is known of a slice of slices of bytes that came in -/
structure InC (w : World) (a : Option Addr) (c m : Nat) (A : Nat → Option Addr) (C : Nat → Nat) (Z : Nat → List Int) : Prop where
  sl : SlC (fun b => b < w.heap.size) w a m A C Z
  nil : a = none → m = 0 ∧ c = 0
  len : m ≤ maxLen
  lens : ∀ i, (Z i).length ≤ maxLen
  an : ∀ i, i < m → A i = none → (Z i).length = 0 ∧ C i = 0

/-- the law's second loop: the message and what is wanted so far -/
def C7Rel (Z : Nat → List Int) (m : Nat) (w2 : World) (g : Nat) (mv wv iv : Value) (wr : World) : Prop :=
  ∃ k, k ≤ m ∧ g = m - k ∧ iv = .int .i64 (k : Int) ∧ OwnB w2.heap.size wr mv (encPre (pre Z k)) ∧ OwnB w2.heap.size wr wv (pre Z k).flatten ∧ (∀ x, mv.ownBlock = some x → wv.ownBlock ≠ some x) ∧ Below w2.heap.size w2 wr

/-- two lists of one's own, one of them appended to -/
theorem app_pair {B : Nat} {w w' : World} {v u : Value} {zs us : List Int} {g n cap : Nat} (hv : OwnB B w v zs) (hu : OwnB B w u us) (hdis : ∀ x, v.ownBlock = some x → u.ownBlock ≠ some x) (hg : w.grownBy w' v.ownBlock) (hat : v.ownBlock = some g ∨ g = w.heap.size) :
    OwnB B w' u us ∧ (∀ x, (Value.slice (some ⟨g, 0, none⟩) n cap).ownBlock = some x → u.ownBlock ≠ some x) := by
  refine ⟨hu.frame fun k hk => hg.block k (hu.own.lt k hk).2 (fun e => hdis k e.symm hk), fun x hx hux => ?_⟩
  have hxg : g = x := by simpa [Value.ownBlock] using hx
  subst hxg
  rcases hat with h | h
  · exact hdis _ h hux
  · have := (hu.own.lt _ hux).2
    omega
theorem dis_symm {v u : Value} (h : ∀ x, v.ownBlock = some x → u.ownBlock ≠ some x) : ∀ x, u.ownBlock = some x → v.ownBlock ≠ some x := fun x hx hv => h x hv hx

theorem SlB.lies {D : Nat → Prop} {w : World} {a : Option Addr} {zs : List Int} (h : SlB D w a zs) (hp : 0 < zs.length) : ∃ b o, a = some ⟨b, o, none⟩ ∧ D b ∧ Lies w b o zs := by
  obtain ⟨b, o, rfl, hb, _⟩ := h 0 hp
  refine ⟨b, o, rfl, hb, fun k hk => ?_⟩
  obtain ⟨b', o', he, _, hc⟩ := h k hk
  injection he with he
  injection he with h1 h2
  subst h1 h2
  exact hc

theorem OwnB.dec {B g n cap : Nat} {w : World} {zs : List Int} (h : OwnB B w (.slice (some ⟨g, 0, none⟩) n cap) zs) (hp : 0 < zs.length) : zs.length ≤ cap ∧ Lies w g 0 zs ∧ g < w.heap.size := by
  obtain ⟨a, c, he, _, hc, _⟩ := h.form
  injection he with h1 h2 h3
  subst h3
  refine ⟨hc, ?_, (h.own.lt g rfl).2⟩
  obtain ⟨b, o, hb, _, hl⟩ := SlB.lies h.kept hp
  injection hb with hb
  injection hb with h4 h5
  subst h4 h5
  exact hl
theorem lies_zero (w : World) : Lies (w.alloc (.cells #[.int .u8 0] 5)) w.heap.size 0 [0] := fun k hk => by
  have h0 : k = 0 := by simpa using hk
  subst h0
  have := (World.rowIs_alloc w #[.int .u8 0] 5 (fun _ => .int .u8 0) (fun i hi => by
    have h0 : i = 0 := by simpa using hi
    subst h0
    rfl)).cell (i := 0) (by simp)
  exact this

def EncPost2 (v l : Nat) (w : World) (e : Ending) (w' : World) : Prop :=
  e = .returned (.slice (some ⟨w.heap.size, 0, none⟩) (enc v l).length (enc v l).length) ∧ RowB w' w.heap.size (enc v l) ∧ Below w.heap.size w w'
theorem encode_row (v l : Nat) (hl : IsW l) (hv : v < 2 ^ (8 * l - 2)) (w : World) : Calls Try.prog 15 #[.int .u64 (v : Int), .int .i64 (l : Int)] w fun e w' => EncPost2 v l w e w' :=
  (encode_any v l hl hv w).mono fun e w' ⟨he, h1, h2⟩ => ⟨by rw [enc_length]; exact he, h1, h2⟩

set_option maxHeartbeats 1600000 in
theorem law7 (a a2 : Option Addr) (c c2 m : Nat) (A : Nat → Option Addr) (C : Nat → Nat) (Z : Nat → List Int) (zs : List Int) (w : World) (h : InC w a c m A C Z) (h2 : InB w a2 c2 zs) :
    Calls Try.prog 7 #[.slice a m c, .slice a2 zs.length c2] w fun e w' => LawPost w e w' := by
  have hm := h.len
  have hm2 := h2.len
  unfold maxLen at hm hm2
  have hlens := h.lens
  simp only [maxLen] at hlens
  have hB9 := bytes22 _ a a2 m c zs.length c2 A C Z w h.sl h.len h.lens h2.len
  by_cases hlen : m ≤ 65536 ∧ zs.length ≤ 1048576 ∧ zs.length + 24 * m ≤ 1048576
  · obtain ⟨hl1, hl2, hl3⟩ := hlen
    have hb1 : decide ((65536 : Int) < (m : Int)) = false := decide_eq_false (by omega)
    have hb2 : decide ((1048576 : Int) < (zs.length : Int)) = false := decide_eq_false (by omega)
    have hb3 : decide ((1048576 : Int) < (zs.length : Int) + 24 * (m : Int)) = false := decide_eq_false (by omega)
    have Hin := hide h
    have hsl := h.sl
    have Hin2 := hide h2
    clear h h2
    go_enter Try.func7, Try.ntmps7
    go_wp2_with (first | (go_at_call 22; refine hB9.mono ?_; rintro e w' ⟨⟨r, rfl⟩, hw9⟩; have hw8 := hw9.symm; clear hw9; subst hw8))
    · go_ret
      exact ⟨rfl, Below.refl _ _⟩
    · clear hB9 hb1 hb2 hb3
      go_loopg [5, 6] m (fun g tv iv wr => ∃ k : Nat, k ≤ m ∧ g = m - k ∧ iv = .int .i64 (k : Int) ∧ tv = .int .i64 ((zs.length + 24 * m + tot Z k : Nat) : Int) ∧ zs.length + 24 * m + tot Z k ≤ 1048576 ∧ wr = w)
      case atStart => exact ⟨0, by omega, rfl, rfl, by unfold tot; go_num, by unfold tot; omega, rfl⟩
      case round =>
        obtain ⟨k, hk, hg, rfl, rfl, htk, hwr⟩ := hrel
        have hwr2 := hwr.symm
        subst hwr2
        have Hg := hide hg
        clear hg hwr
        by_cases hlt : k < m
        · obtain ⟨⟨b, o, rfl, _, hc⟩, _⟩ := hsl k hlt
          have hLk := hlens k
          have Hts : Hid (tot Z (k + 1) = tot Z k + (Z k).length) := rfl
          generalize (Z k).length = Lk at *
          generalize tot Z k = tk at *
          go_wp2
          · go_ret; exact ⟨rfl, Below.refl _ _⟩
          · go_ret; exact ⟨rfl, Below.refl _ _⟩
          · go_roundg (m - (k + 1))
            case measure => rw [Hg.out]; omega
            case rel => exact ⟨k + 1, by omega, rfl, by go_num, by rw [Hts.out]; go_num, by rw [Hts.out]; omega, rfl⟩
        · have hkm : m = k := by omega
          subst hkm
          clear Hg hk hlt
          have hLb : ∀ i, i < m → (Z i).length ≤ 1048576 := fun i hi => by
            have h1 := tot_mono Z (k := i + 1) (m := m) (by omega)
            have h2 : tot Z (i + 1) = tot Z i + (Z i).length := rfl
            omega
          have Hcl := hide (cloneAll_any _ a m c A C Z _ hsl (fun b hb => hb) Hin.out.nil Hin.out.an hl1 hLb)
          have HLb := hide hLb
          have Htk := hide htk
          clear hLb hlens hsl htk
          generalize tot Z m = tt
          go_wp2_with fail
          refine Hcl.out.mono ?_
          rintro e w1 ⟨⟨a', c', A', C', rfl, hsl1⟩, hbe1⟩
          have Hcl2 := hide (clone_kept (c := c2) (Kept.on (w := w) Hin2.out.sl hbe1) Hin2.out.nil hl2)
          clear Hcl
          go_wp2_with fail
          refine Hcl2.out.mono ?_
          rintro e w2 ⟨⟨a2', c2', rfl, hnil2, hcc2, hc22, hsl2⟩, hbe2⟩
          have hslC : SlC (fun b => b < w2.heap.size) w2 a' m A' C' Z := (hsl1.frame (fun b hb => hbe2.block b hb.2)).weaken (fun b hb => Nat.lt_of_lt_of_le hb.2 hbe2.size)
          have HslC := hide hslC
          have kz := kept_clone hsl2
          have hb02 := Below.step hbe1 hbe2
          clear Hcl2 hsl1 hbe1 hsl2 hbe2 hslC Hin Hin2 hnil2
          go_wp2_with fail
          go_loopg [7, 8, 9, 10] m (fun g mv wv iv _ wr => C7Rel Z m w2 g mv wv iv wr)
          case atStart => exact ⟨0, by omega, rfl, rfl, OwnB.start _ _, OwnB.start _ _, (fun x hx => by cases hx), Below.refl _ _⟩
          case round =>
            obtain ⟨j, hj, hg, rfl, hO0, hW0, hdis, hbel⟩ := hrel
            have Hg := hide hg
            clear hg
            obtain ⟨xs, Hxs, hO⟩ := hO0.gen
            obtain ⟨ys, Hys, hW⟩ := hW0.gen
            clear hO0 hW0
            have hxl : xs.length ≤ 1048576 := by
              have h1 := encPre_len Z j
              have h2 := tot_mono Z hj
              have h3 := Htk.out
              rw [Hxs.out]
              omega
            have hyl : ys.length ≤ 1048576 := by
              have h1 := pre_len Z j
              have h2 := tot_mono Z hj
              have h3 := Htk.out
              rw [Hys.out]
              omega
            obtain ⟨ma, mc, rfl, hmn, hmc, hmb⟩ := hO.form
            obtain ⟨wa, wc, rfl, hwn, hwc, hwb⟩ := hW.form
            by_cases hlt : j < m
            · obtain ⟨⟨b, o, hx, hDb, hc⟩, hin⟩ := HslC.out j hlt
              subst hx
              have hc' : wr.cell? ⟨b, o + j, none⟩ = some (.slice (A' j) (Z j).length (C' j)) := (hbel.cell (p := ⟨b, o + j, none⟩) hDb).trans hc
              have hLj := HLb.out j hlt
              have hpre : pre Z (j + 1) = if (Z j).length = 0 then pre Z j else pre Z j ++ [Z j] := rfl
              clear hc
              by_cases hz : (Z j).length = 0
              · rw [if_pos hz] at hpre
                have Hpre := hide hpre
                have hzb : (((Z j).length : Int) == 0) = true := by rw [hz]; rfl
                have HO : Hid (OwnB w2.heap.size wr (.slice ma xs.length mc) (encPre (pre Z (j + 1)))) := by rw [hpre, ← Hxs.out]; exact hO
                have HW : Hid (OwnB w2.heap.size wr (.slice wa ys.length wc) (pre Z (j + 1)).flatten) := by rw [hpre, ← Hys.out]; exact hW
                clear hpre hO hW hin
                generalize (Z j).length = Lj at *
                go_wp2_with fail
                go_roundg (m - (j + 1))
                case measure => rw [Hg.out]; omega
                case rel => exact ⟨j + 1, by omega, rfl, by go_num, HO.out, HW.out, hdis, hbel⟩
              · rw [if_neg hz] at hpre
                have hzb : (((Z j).length : Int) == 0) = false := beq_eq_false_iff_ne.2 (by omega)
                obtain ⟨b3, o3, hA, hD3, hli⟩ := SlB.lies hin (by omega)
                rw [hA] at hc'
                have hli := hli.of_block (hbel.block b3 hD3)
                clear hin hA
                have HO' : Hid (encPre (pre Z (j + 1)) = (xs ++ enc (Z j).length (minw (Z j).length)) ++ Z j) := by rw [hpre, encPre_snoc, ← Hxs.out]; rfl
                have HW' : Hid ((pre Z (j + 1)).flatten = ys ++ Z j) := by rw [hpre, flatten_snoc, ← Hys.out]; rfl
                clear hpre
                have hcp : 0 < (Z j).length := by omega
                generalize Z j = cj at *
                have HMW := hide (minWidth_any cj.length)
                have Hen := hide (encode_row cj.length (minw cj.length) (isW_minw _) (minw_ok (by omega)) wr)
                have hep : 0 < (enc cj.length (minw cj.length)).length := by rw [enc_length]; exact (minw_pos _).1
                have hep8 : (enc cj.length (minw cj.length)).length ≤ 8 := by rw [enc_length]; exact (minw_pos _).2
                go_wp2_with (go_at_call 13; refine (HMW.out _).mono ?_; rintro e w' ⟨rfl, hw9⟩; have hw8 := hw9.symm; clear hw9; subst hw8)
                refine Hen.out.mono ?_
                rintro e w3 ⟨rfl, hr3, hbe3⟩
                clear Hen HMW
                generalize enc cj.length (minw cj.length) = es at *
                have hO3 := hO.on hbe3
                have hW3 := hW.on hbe3
                have hb3' := Below.step hbel hbe3
                have hb3z : b3 < wr.heap.size := Nat.lt_of_lt_of_le hD3 hbel.size
                have hbz : b < wr.heap.size := Nat.lt_of_lt_of_le hDb hbel.size
                have hli3 := hli.of_block (hbe3.block b3 hb3z)
                have hc3 : w3.cell? ⟨b, o + j, none⟩ = some (.slice (some ⟨b3, o3, none⟩) cj.length (C' j)) := (World.cell?_of_block (w := wr) (hbe3.block b hbz)).trans hc'
                have hll := hr3.lies
                have hws3 := hb3'.size
                clear hO hW hbel hbe3 hli hc' hr3 hb3z hbz
                go_wp2_with (at_builtin; go_loud (refine wpList_app8 rfl _ _ rfl rfl hO3 rfl hll hep (by omega) hws3 ?_))
                intro g4 cap4 w4 hO4 hgrow hat hlt4
                have hbe4 := below_app hO3 hws3 hgrow
                obtain ⟨hW4, hdis4⟩ := app_pair (n := xs.length + es.length) (cap := cap4) hO3 hW3 hdis hgrow hat
                have hb4 := hb3'.trans hbe4
                have hli4 := hli3.of_block (hbe4.block b3 hD3)
                have hc4 : w4.cell? ⟨b, o + j, none⟩ = some (.slice (some ⟨b3, o3, none⟩) cj.length (C' j)) := (World.cell?_of_block (w := w3) (hbe4.block b hDb)).trans hc3
                have hws4 := hb4.size
                have hxe : xs.length + es.length = (xs ++ es).length := List.length_append.symm
                have hx1 : (xs ++ es).length ≤ 1048584 := by rw [← hxe]; omega
                clear hO3 hW3 hgrow hat hlt4 hbe4 hb3' hli3 hc3 hll hdis hws3
                rw [hxe] at hO4 hdis4 ⊢
                clear hxe
                generalize xs ++ es = x1 at *
                go_wp2_with (at_builtin; go_loud (refine wpList_app8 rfl _ _ rfl rfl hO4 rfl hli4 hcp (by omega) hws4 ?_))
                intro g5 cap5 w5 hO5 hgrow hat hlt5
                have hbe5 := below_app hO4 hws4 hgrow
                obtain ⟨hW5, hdis5⟩ := app_pair (n := x1.length + cj.length) (cap := cap5) hO4 hW4 hdis4 hgrow hat
                have hb5 := hb4.trans hbe5
                have hli5 := hli4.of_block (hbe5.block b3 hD3)
                have hc5 : w5.cell? ⟨b, o + j, none⟩ = some (.slice (some ⟨b3, o3, none⟩) cj.length (C' j)) := (World.cell?_of_block (w := w4) (hbe5.block b hDb)).trans hc4
                have hws5 := hb5.size
                have hxe : x1.length + cj.length = (x1 ++ cj).length := List.length_append.symm
                clear hO4 hW4 hgrow hat hlt5 hbe5 hb4 hli4 hc4 hdis4 hws4
                rw [hxe] at hO5 hdis5 ⊢
                clear hxe
                generalize x1 ++ cj = x2 at *
                have hdis5' := dis_symm hdis5
                clear hdis5
                go_wp2_with (at_builtin; go_loud (refine wpList_app8 rfl _ _ rfl rfl hW5 rfl hli5 hcp (by omega) hws5 ?_))
                intro g6 cap6 w6 hW6 hgrow hat hlt6
                have hbe6 := below_app hW5 hws5 hgrow
                obtain ⟨hO6, hdis6⟩ := app_pair (n := ys.length + cj.length) (cap := cap6) hW5 hO5 hdis5' hgrow hat
                have hb6 := hb5.trans hbe6
                have hdis7 := dis_symm hdis6
                clear hO5 hW5 hgrow hat hlt6 hbe6 hb5 hli5 hc5 hdis5' hws5 hdis6
                go_wp2_with fail
                go_roundg (m - (j + 1))
                case measure => rw [Hg.out]; omega
                case rel => exact ⟨j + 1, by omega, rfl, by go_num, by rw [HO'.out]; exact hO6, by rw [HW'.out]; exact hW6, hdis7, hb6⟩
            · have hjm : m = j := by omega
              subst hjm
              clear Hg hj hlt HLb
              have hbn := below_born wr (.cells #[.int .u8 0] 5)
              have hO1 := hO.on hbn
              have hW1 := hW.on hbn
              have hb1 := Below.step hbel hbn
              have hl1' := lies_zero wr
              have kz2 := kz
              have hws1 := hb1.size
              clear hO hW hbel hbn kz
              go_upto_region 28 with fail
              go_wp2_with (at_builtin; go_loud (refine wpList_app8 rfl _ _ rfl rfl hO1 rfl hl1' (by decide) (by simp; omega) hws1 ?_))
              intro g4 cap4 w4 hO4 hgrow hat hlt4
              have hbe4 := below_app hO1 hws1 hgrow
              have hat2 : (Value.slice ma xs.length mc).ownBlock = some g4 ∨ g4 = (wr.alloc (.cells #[.int .u8 0] 5)).heap.size := by
                rcases hat with h | h
                · exact .inl h
                · exact .inr (by rw [h]; simp)
              obtain ⟨hW4, hdis4⟩ := app_pair (n := xs.length + 1) (cap := cap4) hO1 hW1 hdis hgrow hat2
              have hb4 := hb1.trans hbe4
              have hws4 := hb4.size
              have hxe : xs.length + 1 = (xs ++ [0]).length := by simp
              have hx1 : (xs ++ [0]).length ≤ 1048584 := by rw [← hxe]; omega
              have hx0 : 0 < (xs ++ [0]).length := by rw [← hxe]; omega
              have Hx1 : Hid (encAll (pre Z m) = xs ++ [0]) := by rw [encAll_pre, Hxs.out]; rfl
              have kz4 : SlB (fun b => b < w2.heap.size) w4 a2' zs := kz2.frame (fun b hb => hb4.block b hb)
              rw [hxe] at hO4 hdis4 ⊢
              clear hO1 hW1 hgrow hat hat2 hlt4 hbe4 hb1 hl1' hdis hws1 hxe hmn hmc hmb hwn hwc hwb
              generalize xs ++ [0] = x1 at *
              by_cases hz : zs.length = 0
              · have hxz : x1 ++ zs = x1 := by rw [List.eq_nil_of_length_eq_zero hz, List.append_nil]
                have hroom := (hO4.dec hx0).1
                have Hz := hide hz
                clear hz
                go_wp2_with (at_builtin; go_loud (refine wpList_app0 rfl _ _ rfl rfl (by rw [← Hz.out]; rfl) hroom ?_))
                obtain ⟨g5, hg5⟩ : ∃ g5, g5 = g4 := ⟨_, rfl⟩
                obtain ⟨cap5, hc5⟩ : ∃ cap5, cap5 = cap4 := ⟨_, rfl⟩
                obtain ⟨w5, hw5⟩ : ∃ w5, w5 = w4 := ⟨_, rfl⟩
                subst hg5 hc5 hw5
                have hO5 : OwnB w2.heap.size w5 (.slice (some ⟨g5, 0, none⟩) (x1 ++ zs).length cap5) (x1 ++ zs) := by rw [hxz]; exact hO4
                have hW5 := hW4
                have hb5 := hb4
                have hlen5 : (x1 ++ zs).length ≤ 3000000 := by rw [hxz]; omega
                have hpos5 : 0 < (x1 ++ zs).length := by rw [hxz]; omega
                have hxl : x1.length = (x1 ++ zs).length := by rw [hxz]
                rw [hxl]
                clear hO4 hW4 hb4 hdis4 hws4 hxz hroom kz4 hx0 hx1 hxl
                have Hms : Hid (encAll (pre Z m) ++ zs = x1 ++ zs) := by rw [Hx1.out]; rfl
                generalize x1 ++ zs = ms at *
                obtain ⟨hcap5, hlies5, hlt5⟩ := hO5.dec hpos5
                have hzc := zzContent_chunks (b := g5) (o := 0) (cap := cap5) (cs := pre Z m) (rest := zs) (w := w5) (by rw [Hms.out]; exact hcap5) (by rw [Hms.out]; exact hlies5) hlt5 (pre_pos Z m) (by rw [← Hys.out]; exact hyl) (by rw [Hms.out]; omega)
                rw [Hms.out, ← Hys.out] at hzc
                have Hzc := hide hzc
                have kz5 : SlB (fun b => b < w5.heap.size) w5 a2' zs := (kz2.frame (fun b hb => hb5.block b hb)).weaken (fun b hb => Nat.lt_of_lt_of_le hb hb5.size)
                have hb05 : Below w.heap.size w w5 := hb02.trans (hb5.mono hb02.size)
                clear hzc hO5 hcap5 hlies5 kz2 hb5
                go_wp2_with fail
                refine Hzc.out.mono ?_
                rintro e w6 ⟨cv, o2, cap2, rfl, ⟨ga, gc, rfl, hgn, hgk⟩, hl6, hb6⟩
                clear Hzc
                have Heq1 := hide (equal_kept (c := gc) (c2 := wc) hgk (hW5.on hb6).kept (by omega))
                have kz6 := Kept.on kz5 hb6
                have kl6 := hl6.kept (Nat.lt_of_lt_of_le hlt5 hb6.size)
                have hb06 := Below.step hb05 hb6
                have hnn := fun w' => Lib.run_eql_slice_nil (P := Try.prog) w' 23 5 ga ys.length gc 0 0 Try.underlying23
                clear hgk hW5 kz5 hl6 hb6 hb05
                go_wp2_with fail
                refine Heq1.out.mono ?_
                rintro e w7 ⟨rfl, q, rfl⟩
                clear Heq1
                have Heq2 := hide (equal_kept (w := w6.drewN q) (c := cap2) (c2 := c2') (kl6.drewN q) (kz6.drewN q) (by omega))
                have hb07 := Below.drewN hb06 q
                clear kl6 kz6 hb06
                generalize w6.drewN q = w7 at *
                have hbb : (((ys.length : Int) == 0) == ((ys.length : Int) == 0)) = true := by simp
                generalize hyz : ((ys.length : Int) == 0) = yz at *
                cases yz
                all_goals
                  go_wp2_with fail
                  refine Heq2.out.mono ?_
                  rintro e w8 ⟨rfl, q, rfl⟩
                  clear Heq2
                  go_wp2_with fail
                  go_ret
                  exact ⟨rfl, Below.drewN hb07 q⟩
              · obtain ⟨bz, oz, hza, hDz, hlz⟩ := SlB.lies kz4 (by omega)
                have Hza := hide hza
                clear hza
                go_wp2_with (at_builtin; go_loud (refine wpList_app8 rfl _ _ rfl rfl hO4 (by rw [← Hza.out]; rfl) hlz (by omega) (by omega) hws4 ?_))
                intro g5 cap5 w5 hO5 hgrow hat hlt5
                have hbe5 := below_app hO4 hws4 hgrow
                obtain ⟨hW5, hdis5⟩ := app_pair (n := x1.length + zs.length) (cap := cap5) hO4 hW4 hdis4 hgrow hat
                have hb5 := hb4.trans hbe5
                have hxe : x1.length + zs.length = (x1 ++ zs).length := List.length_append.symm
                rw [hxe] at hO5 ⊢
                have hlen5 : (x1 ++ zs).length ≤ 3000000 := by rw [← hxe]; omega
                have hpos5 : 0 < (x1 ++ zs).length := by rw [← hxe]; omega
                clear hO4 hW4 hgrow hat hlt5 hbe5 hb4 hdis4 hws4 hxe hdis5 hDz hlz kz4 hx0 hx1
                have Hms : Hid (encAll (pre Z m) ++ zs = x1 ++ zs) := by rw [Hx1.out]; rfl
                generalize x1 ++ zs = ms at *
                obtain ⟨hcap5, hlies5, hlt5⟩ := hO5.dec hpos5
                have hzc := zzContent_chunks (b := g5) (o := 0) (cap := cap5) (cs := pre Z m) (rest := zs) (w := w5) (by rw [Hms.out]; exact hcap5) (by rw [Hms.out]; exact hlies5) hlt5 (pre_pos Z m) (by rw [← Hys.out]; exact hyl) (by rw [Hms.out]; omega)
                rw [Hms.out, ← Hys.out] at hzc
                have Hzc := hide hzc
                have kz5 : SlB (fun b => b < w5.heap.size) w5 a2' zs := (kz2.frame (fun b hb => hb5.block b hb)).weaken (fun b hb => Nat.lt_of_lt_of_le hb hb5.size)
                have hb05 : Below w.heap.size w w5 := hb02.trans (hb5.mono hb02.size)
                clear hzc hO5 hcap5 hlies5 kz2 hb5
                go_wp2_with fail
                refine Hzc.out.mono ?_
                rintro e w6 ⟨cv, o2, cap2, rfl, ⟨ga, gc, rfl, hgn, hgk⟩, hl6, hb6⟩
                clear Hzc
                have Heq1 := hide (equal_kept (c := gc) (c2 := wc) hgk (hW5.on hb6).kept (by omega))
                have kz6 := Kept.on kz5 hb6
                have kl6 := hl6.kept (Nat.lt_of_lt_of_le hlt5 hb6.size)
                have hb06 := Below.step hb05 hb6
                have hnn := fun w' => Lib.run_eql_slice_nil (P := Try.prog) w' 23 5 ga ys.length gc 0 0 Try.underlying23
                clear hgk hW5 kz5 hl6 hb6 hb05
                go_wp2_with fail
                refine Heq1.out.mono ?_
                rintro e w7 ⟨rfl, q, rfl⟩
                clear Heq1
                have Heq2 := hide (equal_kept (w := w6.drewN q) (c := cap2) (c2 := c2') (kl6.drewN q) (kz6.drewN q) (by omega))
                have hb07 := Below.drewN hb06 q
                clear kl6 kz6 hb06
                generalize w6.drewN q = w7 at *
                have hbb : (((ys.length : Int) == 0) == ((ys.length : Int) == 0)) = true := by simp
                generalize hyz : ((ys.length : Int) == 0) = yz at *
                cases yz
                all_goals
                  go_wp2_with fail
                  refine Heq2.out.mono ?_
                  rintro e w8 ⟨rfl, q, rfl⟩
                  clear Heq2
                  go_wp2_with fail
                  go_ret
                  exact ⟨rfl, Below.drewN hb07 q⟩
  · go_enter Try.func7, Try.ntmps7
    go_wp2_with (first | (go_at_call 22; refine hB9.mono ?_; rintro e w' ⟨⟨r, rfl⟩, hw9⟩; have hw8 := hw9.symm; clear hw9; subst hw8))
    all_goals (go_ret; exact ⟨rfl, Below.refl _ _⟩)
end Go.Proofs.Qxb6600403a

import Derived.Test.Qxb6600403aL7
namespace Go.Proofs.Qxb6600403a
open Go.RowKit
set_option linter.unusedVariables false
set_option linter.unusedSimpArgs false

theorem RowB.of_block {w w' : World} {b : Nat} {zs : List Int} (h : RowB w b zs) (e : w'.heap[b]? = w.heap[b]?) : RowB w' b zs := World.rowIs.of_block h e

/-- where a payload is cut -/
theorem cut_parts (ps : List Int) (x : Int) (hx : 0 ≤ x) : ∃ p1 p2 : List Int, ps = p1 ++ p2 ∧ x % ((ps.length : Int) + 1) = (p1.length : Int) := by
  have h1 : 0 ≤ x % ((ps.length : Int) + 1) := Int.emod_nonneg _ (by omega)
  have h2 : x % ((ps.length : Int) + 1) < (ps.length : Int) + 1 := Int.emod_lt_of_pos _ (by omega)
  obtain ⟨k, hk⟩ := Int.eq_ofNat_of_zero_le h1
  refine ⟨ps.take k, ps.drop k, (List.take_append_drop k ps).symm, ?_⟩
  rw [List.length_take, hk]
  omega

set_option maxHeartbeats 1600000 in
theorem law8 (x : Int) (a : Option Addr) (c : Nat) (ps : List Int) (w : World) (hx : 0 ≤ x ∧ x < 4294967296) (h : InB w a c ps) :
    Calls Try.prog 8 #[.slice a ps.length c, .int .u32 x] w fun e w' => LawPost w e w' := by
  have hm := h.len
  unfold maxLen at hm
  have hB9 := bytes25 x a ps.length c h.len w
  by_cases hlen : ps.length ≤ 1048576
  · have hb1 : decide ((1048576 : Int) < (ps.length : Int)) = false := decide_eq_false (by omega)
    have Hcl := hide (clone_kept (w := w) h.sl h.nil hlen)
    obtain ⟨p1, p2, hpp, hk⟩ := cut_parts ps x hx.1
    have hpl : ps.length = p1.length + p2.length := by rw [hpp]; exact List.length_append
    have Hpp := hide hpp
    have Hpl := hide hpl
    clear h hpp hpl
    go_enter Try.func8, Try.ntmps8
    go_wp2_with (first | (go_at_call 25; refine hB9.mono ?_; rintro e w' ⟨⟨r, rfl⟩, hw9⟩; have hw8 := hw9.symm; clear hw9; subst hw8))
    · go_ret
      exact ⟨rfl, Below.refl _ _⟩
    · refine Hcl.out.mono ?_
      rintro e w1 ⟨⟨a', c', rfl, hnil, hcc, hc2, hsl⟩, hbel⟩
      clear Hcl hB9 hb1
      have kp := kept_clone hsl
      have HMW := hide (minWidth_any ps.length)
      have Hen := hide (encode_row ps.length (minw ps.length) (isW_minw _) (minw_ok (by omega)) w1)
      clear hsl hnil
      have hsub : (ps.length : Int) - (p1.length : Int) = (p2.length : Int) := by have := Hpl.out; omega
      have hsubN : ps.length - p1.length = p2.length := by have := Hpl.out; omega
      have hp1l : p1.length ≤ ps.length := by have := Hpl.out; omega
      have hp2l : p2.length ≤ 1048576 := by have := Hpl.out; omega
      go_wp2_with (go_at_call 13; refine (HMW.out _).mono ?_; rintro e w' ⟨rfl, hw9⟩; have hw8 := hw9.symm; clear hw9; subst hw8)
      refine Hen.out.mono ?_
      rintro e w2 ⟨rfl, hr2, hbe2⟩
      clear Hen HMW
      have kp2 := kp.on hbe2
      have hb02 := Below.step hbel hbe2
      have hel8 : (enc ps.length (minw ps.length)).length ≤ 8 := by rw [enc_length]; exact (minw_pos _).2
      generalize he0 : enc ps.length (minw ps.length) = e0 at *
      have He0 := hide he0
      clear he0
      have Hcat := hide (concat_kept (c := e0.length) (c2 := c') hr2.kept kp2 (by omega) (by omega))
      clear hr2 kp hbel hbe2
      go_wp2_with fail
      refine Hcat.out.mono ?_
      rintro e w3 ⟨rfl, hr3, hbe3⟩
      clear Hcat
      have kp3 := kp2.on hbe3
      have hb03 := Below.step hb02 hbe3
      have Hkm : Hid (enc ps.length (minw ps.length) ++ ps = e0 ++ ps) := by rw [He0.out]; rfl
      have hkml : (e0 ++ ps).length ≤ 2000000 := by rw [List.length_append]; omega
      clear He0 kp2 hb02 hbe3
      generalize e0 ++ ps = km at *
      obtain ⟨x0, Hx0, hO3⟩ := (OwnB.start w3.heap.size w3).gen
      have hx0l : x0.length ≤ 1 := by rw [Hx0.out]; simp
      have hb3 := Below.refl w3.heap.size w3
      by_cases h1 : p1.length = 0
      · by_cases h2 : p2.length = 0
        · have hn1 : ¬ 0 < p1.length := by omega
          have hn2 : ¬ 0 < p2.length := by omega
          have H1 := hide h1
          clear h1
          have H2 := hide h2
          clear h2
          have hxx : x0 = encPre ([] : List (List Int)) := by
            rw [Hx0.out]; rfl
          have Hxx := hide hxx
          clear hxx
          have hflat : ([] : List (List Int)).flatten = ps := by rw [Hpp.out, List.eq_nil_of_length_eq_zero H1.out, List.eq_nil_of_length_eq_zero H2.out]; rfl
          have Hflat := hide hflat
          have Hcp : Hid (∀ c ∈ ([] : List (List Int)), 0 < c.length) := by
            intro c hc; cases hc
          clear hflat
          have hbn := below_born w3 (.cells #[.int .u8 0] 5)
          have hO20 := hO3.on hbn
          have hb20 := Below.step hb3 hbn
          have hl20 := lies_zero w3
          clear hO3
          go_upto_region 17 with fail
          have hws21 := hb20.size
          go_wp2_with (at_builtin; go_loud (refine wpList_app8 rfl _ _ rfl rfl hO20 rfl hl20 (by decide) (by simp; omega) hws21 ?_))
          intro g21 cap21 w21 hO21 hgrow hat hlt21
          have hbe21 := below_app hO20 hws21 hgrow
          have hb21 := hb20.trans hbe21
          have hxe : x0.length + 1 = (x0 ++ [0]).length := by simp
          have Hx21 : Hid (encAll ([] : List (List Int)) ++ [] = x0 ++ [0]) := by rw [encAll_pre, Hxx.out, List.append_nil]; rfl
          have hpos21 : 0 < (x0 ++ [0]).length := by rw [← hxe]; omega
          have hlen21 : (x0 ++ [0]).length ≤ 600000000 := by rw [← hxe]; omega
          rw [hxe] at hO21 ⊢
          clear hgrow hat hlt21 hws21 hxe hO20 hbn hl20 hbe21
          generalize x0 ++ [0] = x21 at *
          obtain ⟨hcap21, hlies21, hlt21⟩ := hO21.dec hpos21
          have hr21 := hr3.of_block (hb21.block _ hr3.lt)
          have hck := zzContent_known (b := w2.heap.size) (o := 0) (cap := km.length) (l := minw ps.length) (zs := ps) (rest := []) (w := w21) (isW_minw _) (minw_ok (by omega)) (by rw [List.append_nil, Hkm.out]; exact Nat.le_refl _) (by rw [List.append_nil, Hkm.out]; exact hr21.lies) hr21.lt (by rw [List.append_nil]; omega)
          rw [List.append_nil, Hkm.out] at hck
          have Hck := hide hck
          have kp21 : Kept w21 a' ps := (SlB.frame kp3 (fun b hb => hb21.block b hb)).weaken (fun b hb => Nat.lt_of_lt_of_le hb hb21.size)
          have hb021 : Below w.heap.size w w21 := hb03.trans (hb21.mono hb03.size)
          clear hck hr21 hb21
          go_wp2_with fail
          refine Hck.out.mono ?_
          rintro e w22 ⟨cv, o2, cap2, rfl, ⟨ga, gc, rfl, hgn, hgk⟩, hl22, hb22⟩
          clear Hck
          have hO22 := hO21.on hb22
          obtain ⟨hcap22, hlies22, hlt22⟩ := hO22.dec hpos21
          have hcc' := zzContent_chunks (b := g21) (o := 0) (cap := cap21) (cs := ([] : List (List Int))) (rest := []) (w := w22) (by rw [Hx21.out]; exact hcap22) (by rw [Hx21.out]; exact hlies22) hlt22 Hcp.out (by rw [Hflat.out]; exact hlen) (by rw [Hx21.out]; omega)
          rw [Hx21.out, Hflat.out] at hcc'
          have Hcc := hide hcc'
          have kp22 := kp21.on hb22
          have hb022 := Below.step hb021 hb22
          clear hcc' hO21 hO22 hlies21 hlies22 hcap21 hcap22 hlt21 hlt22 kp21 hb021 hb22 hl22
          have hnl : ([] : List Int).length = 0 := rfl
          go_wp2_with fail
          refine Hcc.out.mono ?_
          rintro e w23 ⟨cv2, o3, cap3, rfl, ⟨ga2, gc2, rfl, hgn2, hgk2⟩, hl23, hb23⟩
          clear Hcc
          have Heq1 := hide (equal_kept (c := gc) (c2 := c') (hgk.on hb23) (kp22.on hb23) (by omega))
          have kp23 := kp22.on hb23
          have hb023 := Below.step hb022 hb23
          have hnn1 := fun w' => Lib.run_eql_slice_nil (P := Try.prog) w' 23 5 ga ps.length gc 0 0 Try.underlying23
          have hnn2 := fun w' => Lib.run_eql_slice_nil (P := Try.prog) w' 23 5 ga2 ps.length gc2 0 0 Try.underlying23
          clear hgk kp22 hb23 hb022 hl23
          go_wp2_with fail
          refine Heq1.out.mono ?_
          rintro e w24 ⟨rfl, q, rfl⟩
          clear Heq1
          have Heq2 := hide (equal_kept (w := w23.drewN q) (c := gc2) (c2 := c') (hgk2.drewN q) (kp23.drewN q) (by omega))
          have hb024 := Below.drewN hb023 q
          clear hgk2 kp23 hb023
          generalize w23.drewN q = w24 at *
          generalize hyz : ((ps.length : Int) == 0) = yz at *
          cases yz
          all_goals
            go_wp2_with fail
            refine Heq2.out.mono ?_
            rintro e w25 ⟨rfl, q, rfl⟩
            clear Heq2
            go_wp2_with fail
            go_ret
            exact ⟨rfl, Below.drewN hb024 q⟩
        · have hn1 : ¬ 0 < p1.length := by omega
          have hpos_p2 : 0 < p2.length := by omega
          have H1 := hide h1
          clear h1
          obtain ⟨pb, po, hpa, hpD, hplies⟩ := SlB.lies kp3 (by have := Hpl.out; omega)
          subst hpa
          have hplies2 := hplies
          rw [Hpp.out] at hplies2
          have Hlp1 := hide hplies2.left
          have Hlp2 := hide hplies2.right
          clear hplies hplies2
          have hadv : (if c' = p1.length then some (⟨pb, po, none⟩ : Addr) else some ⟨pb, po + p1.length, none⟩) = some ⟨pb, po + p1.length, none⟩ := by rw [if_neg (by have := Hpl.out; omega)]
          have HMW := hide (minWidth_any p2.length)
          have Hen := hide (encode_row p2.length (minw p2.length) (isW_minw _) (minw_ok (by omega)) w3)
          have hep : 0 < (enc p2.length (minw p2.length)).length := by rw [enc_length]; exact (minw_pos _).1
          have hep8 : (enc p2.length (minw p2.length)).length ≤ 8 := by rw [enc_length]; exact (minw_pos _).2
          go_wp2_with (go_at_call 13; refine (HMW.out _).mono ?_; rintro e w' ⟨rfl, hw9⟩; have hw8 := hw9.symm; clear hw9; subst hw8)
          refine Hen.out.mono ?_
          rintro e w10 ⟨rfl, hr10, hbe10⟩
          clear Hen HMW
          generalize he10 : enc p2.length (minw p2.length) = e10 at *
          have He10 := hide he10
          have hO10 := hO3.on hbe10
          have hb10 := Below.step hb3 hbe10
          have hll := hr10.lies
          clear he10 hO3 hr10
          have hws11 := hb10.size
          go_wp2_with (at_builtin; go_loud (refine wpList_app8 rfl _ _ rfl rfl hO10 rfl hll hep (by omega) hws11 ?_))
          intro g11 cap11 w11 hO11 hgrow hat hlt11
          have hbe11 := below_app hO10 hws11 hgrow
          have hb11 := hb10.trans hbe11
          have hxe : x0.length + e10.length = (x0 ++ e10).length := List.length_append.symm
          have hxl11 : (x0 ++ e10).length ≤ 18500000 := by rw [← hxe]; omega
          rw [hxe] at hO11 ⊢
          clear hgrow hat hlt11 hws11 hxe hO10
          generalize hx11 : x0 ++ e10 = x11 at *
          have Hx11 := hide hx11
          clear hx11
          have hli := Hlp2.out.of_block (hb11.block pb hpD)
          clear hll hep hep8
          have hws12 := hb11.size
          go_wp2_with (at_builtin; go_loud (refine wpList_app8 rfl _ _ rfl rfl hO11 rfl hli hpos_p2 (by omega) hws12 ?_))
          intro g12 cap12 w12 hO12 hgrow hat hlt12
          have hbe12 := below_app hO11 hws12 hgrow
          have hb12 := hb11.trans hbe12
          have hxe : x11.length + p2.length = (x11 ++ p2).length := List.length_append.symm
          have hxl12 : (x11 ++ p2).length ≤ 20000000 := by rw [← hxe]; omega
          rw [hxe] at hO12 ⊢
          clear hgrow hat hlt12 hws12 hxe hO11
          generalize hx12 : x11 ++ p2 = x12 at *
          have Hx12 := hide hx12
          clear hx12
          clear hli
          have hxx : x12 = encPre [p2] := by
            rw [← Hx12.out, ← Hx11.out, ← He10.out, Hx0.out]; simp [encPre]
          have Hxx := hide hxx
          clear hxx
          have hflat : [p2].flatten = ps := by rw [Hpp.out, List.eq_nil_of_length_eq_zero H1.out]; simp
          have Hflat := hide hflat
          have Hcp : Hid (∀ c ∈ [p2], 0 < c.length) := by
            intro c hc; rw [List.mem_singleton.1 hc]; exact hpos_p2
          clear hflat
          have hbn := below_born w12 (.cells #[.int .u8 0] 5)
          have hO20 := hO12.on hbn
          have hb20 := Below.step hb12 hbn
          have hl20 := lies_zero w12
          clear hO12
          go_upto_region 17 with fail
          have hws21 := hb20.size
          go_wp2_with (at_builtin; go_loud (refine wpList_app8 rfl _ _ rfl rfl hO20 rfl hl20 (by decide) (by simp; omega) hws21 ?_))
          intro g21 cap21 w21 hO21 hgrow hat hlt21
          have hbe21 := below_app hO20 hws21 hgrow
          have hb21 := hb20.trans hbe21
          have hxe : x12.length + 1 = (x12 ++ [0]).length := by simp
          have Hx21 : Hid (encAll [p2] ++ [] = x12 ++ [0]) := by rw [encAll_pre, Hxx.out, List.append_nil]; rfl
          have hpos21 : 0 < (x12 ++ [0]).length := by rw [← hxe]; omega
          have hlen21 : (x12 ++ [0]).length ≤ 600000000 := by rw [← hxe]; omega
          rw [hxe] at hO21 ⊢
          clear hgrow hat hlt21 hws21 hxe hO20 hbn hl20 hbe21
          generalize x12 ++ [0] = x21 at *
          obtain ⟨hcap21, hlies21, hlt21⟩ := hO21.dec hpos21
          have hr21 := hr3.of_block (hb21.block _ hr3.lt)
          have hck := zzContent_known (b := w2.heap.size) (o := 0) (cap := km.length) (l := minw ps.length) (zs := ps) (rest := []) (w := w21) (isW_minw _) (minw_ok (by omega)) (by rw [List.append_nil, Hkm.out]; exact Nat.le_refl _) (by rw [List.append_nil, Hkm.out]; exact hr21.lies) hr21.lt (by rw [List.append_nil]; omega)
          rw [List.append_nil, Hkm.out] at hck
          have Hck := hide hck
          have kp21 : Kept w21 (some ⟨pb, po, none⟩) ps := (SlB.frame kp3 (fun b hb => hb21.block b hb)).weaken (fun b hb => Nat.lt_of_lt_of_le hb hb21.size)
          have hb021 : Below w.heap.size w w21 := hb03.trans (hb21.mono hb03.size)
          clear hck hr21 hb21
          go_wp2_with fail
          refine Hck.out.mono ?_
          rintro e w22 ⟨cv, o2, cap2, rfl, ⟨ga, gc, rfl, hgn, hgk⟩, hl22, hb22⟩
          clear Hck
          have hO22 := hO21.on hb22
          obtain ⟨hcap22, hlies22, hlt22⟩ := hO22.dec hpos21
          have hcc' := zzContent_chunks (b := g21) (o := 0) (cap := cap21) (cs := [p2]) (rest := []) (w := w22) (by rw [Hx21.out]; exact hcap22) (by rw [Hx21.out]; exact hlies22) hlt22 Hcp.out (by rw [Hflat.out]; exact hlen) (by rw [Hx21.out]; omega)
          rw [Hx21.out, Hflat.out] at hcc'
          have Hcc := hide hcc'
          have kp22 := kp21.on hb22
          have hb022 := Below.step hb021 hb22
          clear hcc' hO21 hO22 hlies21 hlies22 hcap21 hcap22 hlt21 hlt22 kp21 hb021 hb22 hl22
          have hnl : ([] : List Int).length = 0 := rfl
          go_wp2_with fail
          refine Hcc.out.mono ?_
          rintro e w23 ⟨cv2, o3, cap3, rfl, ⟨ga2, gc2, rfl, hgn2, hgk2⟩, hl23, hb23⟩
          clear Hcc
          have Heq1 := hide (equal_kept (c := gc) (c2 := c') (hgk.on hb23) (kp22.on hb23) (by omega))
          have kp23 := kp22.on hb23
          have hb023 := Below.step hb022 hb23
          have hnn1 := fun w' => Lib.run_eql_slice_nil (P := Try.prog) w' 23 5 ga ps.length gc 0 0 Try.underlying23
          have hnn2 := fun w' => Lib.run_eql_slice_nil (P := Try.prog) w' 23 5 ga2 ps.length gc2 0 0 Try.underlying23
          clear hgk kp22 hb23 hb022 hl23
          go_wp2_with fail
          refine Heq1.out.mono ?_
          rintro e w24 ⟨rfl, q, rfl⟩
          clear Heq1
          have Heq2 := hide (equal_kept (w := w23.drewN q) (c := gc2) (c2 := c') (hgk2.drewN q) (kp23.drewN q) (by omega))
          have hb024 := Below.drewN hb023 q
          clear hgk2 kp23 hb023
          generalize w23.drewN q = w24 at *
          generalize hyz : ((ps.length : Int) == 0) = yz at *
          cases yz
          all_goals
            go_wp2_with fail
            refine Heq2.out.mono ?_
            rintro e w25 ⟨rfl, q, rfl⟩
            clear Heq2
            go_wp2_with fail
            go_ret
            exact ⟨rfl, Below.drewN hb024 q⟩
      · by_cases h2 : p2.length = 0
        · have hpos_p1 : 0 < p1.length := by omega
          have hn2 : ¬ 0 < p2.length := by omega
          have H2 := hide h2
          clear h2
          obtain ⟨pb, po, hpa, hpD, hplies⟩ := SlB.lies kp3 (by have := Hpl.out; omega)
          subst hpa
          have hplies2 := hplies
          rw [Hpp.out] at hplies2
          have Hlp1 := hide hplies2.left
          have Hlp2 := hide hplies2.right
          clear hplies hplies2
          have HMW := hide (minWidth_any p1.length)
          have Hen := hide (encode_row p1.length (minw p1.length) (isW_minw _) (minw_ok (by omega)) w3)
          have hep : 0 < (enc p1.length (minw p1.length)).length := by rw [enc_length]; exact (minw_pos _).1
          have hep8 : (enc p1.length (minw p1.length)).length ≤ 8 := by rw [enc_length]; exact (minw_pos _).2
          go_wp2_with (go_at_call 13; refine (HMW.out _).mono ?_; rintro e w' ⟨rfl, hw9⟩; have hw8 := hw9.symm; clear hw9; subst hw8)
          refine Hen.out.mono ?_
          rintro e w4 ⟨rfl, hr4, hbe4⟩
          clear Hen HMW
          generalize he4 : enc p1.length (minw p1.length) = e4 at *
          have He4 := hide he4
          have hO4 := hO3.on hbe4
          have hb4 := Below.step hb3 hbe4
          have hll := hr4.lies
          clear he4 hO3 hr4
          have hws5 := hb4.size
          go_wp2_with (at_builtin; go_loud (refine wpList_app8 rfl _ _ rfl rfl hO4 rfl hll hep (by omega) hws5 ?_))
          intro g5 cap5 w5 hO5 hgrow hat hlt5
          have hbe5 := below_app hO4 hws5 hgrow
          have hb5 := hb4.trans hbe5
          have hxe : x0.length + e4.length = (x0 ++ e4).length := List.length_append.symm
          have hxl5 : (x0 ++ e4).length ≤ 9500000 := by rw [← hxe]; omega
          rw [hxe] at hO5 ⊢
          clear hgrow hat hlt5 hws5 hxe hO4
          generalize hx5 : x0 ++ e4 = x5 at *
          have Hx5 := hide hx5
          clear hx5
          have hli := Hlp1.out.of_block (hb5.block pb hpD)
          clear hll hep hep8
          have hws6 := hb5.size
          go_wp2_with (at_builtin; go_loud (refine wpList_app8 rfl _ _ rfl rfl hO5 rfl hli hpos_p1 (by omega) hws6 ?_))
          intro g6 cap6 w6 hO6 hgrow hat hlt6
          have hbe6 := below_app hO5 hws6 hgrow
          have hb6 := hb5.trans hbe6
          have hxe : x5.length + p1.length = (x5 ++ p1).length := List.length_append.symm
          have hxl6 : (x5 ++ p1).length ≤ 11000000 := by rw [← hxe]; omega
          rw [hxe] at hO6 ⊢
          clear hgrow hat hlt6 hws6 hxe hO5
          generalize hx6 : x5 ++ p1 = x6 at *
          have Hx6 := hide hx6
          clear hx6
          clear hli
          have hxx : x6 = encPre [p1] := by
            rw [← Hx6.out, ← Hx5.out, ← He4.out, Hx0.out]; simp [encPre]
          have Hxx := hide hxx
          clear hxx
          have hflat : [p1].flatten = ps := by rw [Hpp.out, List.eq_nil_of_length_eq_zero H2.out]; simp
          have Hflat := hide hflat
          have Hcp : Hid (∀ c ∈ [p1], 0 < c.length) := by
            intro c hc; rw [List.mem_singleton.1 hc]; exact hpos_p1
          clear hflat
          have hbn := below_born w6 (.cells #[.int .u8 0] 5)
          have hO20 := hO6.on hbn
          have hb20 := Below.step hb6 hbn
          have hl20 := lies_zero w6
          clear hO6
          go_upto_region 17 with fail
          have hws21 := hb20.size
          go_wp2_with (at_builtin; go_loud (refine wpList_app8 rfl _ _ rfl rfl hO20 rfl hl20 (by decide) (by simp; omega) hws21 ?_))
          intro g21 cap21 w21 hO21 hgrow hat hlt21
          have hbe21 := below_app hO20 hws21 hgrow
          have hb21 := hb20.trans hbe21
          have hxe : x6.length + 1 = (x6 ++ [0]).length := by simp
          have Hx21 : Hid (encAll [p1] ++ [] = x6 ++ [0]) := by rw [encAll_pre, Hxx.out, List.append_nil]; rfl
          have hpos21 : 0 < (x6 ++ [0]).length := by rw [← hxe]; omega
          have hlen21 : (x6 ++ [0]).length ≤ 600000000 := by rw [← hxe]; omega
          rw [hxe] at hO21 ⊢
          clear hgrow hat hlt21 hws21 hxe hO20 hbn hl20 hbe21
          generalize x6 ++ [0] = x21 at *
          obtain ⟨hcap21, hlies21, hlt21⟩ := hO21.dec hpos21
          have hr21 := hr3.of_block (hb21.block _ hr3.lt)
          have hck := zzContent_known (b := w2.heap.size) (o := 0) (cap := km.length) (l := minw ps.length) (zs := ps) (rest := []) (w := w21) (isW_minw _) (minw_ok (by omega)) (by rw [List.append_nil, Hkm.out]; exact Nat.le_refl _) (by rw [List.append_nil, Hkm.out]; exact hr21.lies) hr21.lt (by rw [List.append_nil]; omega)
          rw [List.append_nil, Hkm.out] at hck
          have Hck := hide hck
          have kp21 : Kept w21 (some ⟨pb, po, none⟩) ps := (SlB.frame kp3 (fun b hb => hb21.block b hb)).weaken (fun b hb => Nat.lt_of_lt_of_le hb hb21.size)
          have hb021 : Below w.heap.size w w21 := hb03.trans (hb21.mono hb03.size)
          clear hck hr21 hb21
          go_wp2_with fail
          refine Hck.out.mono ?_
          rintro e w22 ⟨cv, o2, cap2, rfl, ⟨ga, gc, rfl, hgn, hgk⟩, hl22, hb22⟩
          clear Hck
          have hO22 := hO21.on hb22
          obtain ⟨hcap22, hlies22, hlt22⟩ := hO22.dec hpos21
          have hcc' := zzContent_chunks (b := g21) (o := 0) (cap := cap21) (cs := [p1]) (rest := []) (w := w22) (by rw [Hx21.out]; exact hcap22) (by rw [Hx21.out]; exact hlies22) hlt22 Hcp.out (by rw [Hflat.out]; exact hlen) (by rw [Hx21.out]; omega)
          rw [Hx21.out, Hflat.out] at hcc'
          have Hcc := hide hcc'
          have kp22 := kp21.on hb22
          have hb022 := Below.step hb021 hb22
          clear hcc' hO21 hO22 hlies21 hlies22 hcap21 hcap22 hlt21 hlt22 kp21 hb021 hb22 hl22
          have hnl : ([] : List Int).length = 0 := rfl
          go_wp2_with fail
          refine Hcc.out.mono ?_
          rintro e w23 ⟨cv2, o3, cap3, rfl, ⟨ga2, gc2, rfl, hgn2, hgk2⟩, hl23, hb23⟩
          clear Hcc
          have Heq1 := hide (equal_kept (c := gc) (c2 := c') (hgk.on hb23) (kp22.on hb23) (by omega))
          have kp23 := kp22.on hb23
          have hb023 := Below.step hb022 hb23
          have hnn1 := fun w' => Lib.run_eql_slice_nil (P := Try.prog) w' 23 5 ga ps.length gc 0 0 Try.underlying23
          have hnn2 := fun w' => Lib.run_eql_slice_nil (P := Try.prog) w' 23 5 ga2 ps.length gc2 0 0 Try.underlying23
          clear hgk kp22 hb23 hb022 hl23
          go_wp2_with fail
          refine Heq1.out.mono ?_
          rintro e w24 ⟨rfl, q, rfl⟩
          clear Heq1
          have Heq2 := hide (equal_kept (w := w23.drewN q) (c := gc2) (c2 := c') (hgk2.drewN q) (kp23.drewN q) (by omega))
          have hb024 := Below.drewN hb023 q
          clear hgk2 kp23 hb023
          generalize w23.drewN q = w24 at *
          generalize hyz : ((ps.length : Int) == 0) = yz at *
          cases yz
          all_goals
            go_wp2_with fail
            refine Heq2.out.mono ?_
            rintro e w25 ⟨rfl, q, rfl⟩
            clear Heq2
            go_wp2_with fail
            go_ret
            exact ⟨rfl, Below.drewN hb024 q⟩
        · have hpos_p1 : 0 < p1.length := by omega
          have hpos_p2 : 0 < p2.length := by omega
          obtain ⟨pb, po, hpa, hpD, hplies⟩ := SlB.lies kp3 (by have := Hpl.out; omega)
          subst hpa
          have hplies2 := hplies
          rw [Hpp.out] at hplies2
          have Hlp1 := hide hplies2.left
          have Hlp2 := hide hplies2.right
          clear hplies hplies2
          have hadv : (if c' = p1.length then some (⟨pb, po, none⟩ : Addr) else some ⟨pb, po + p1.length, none⟩) = some ⟨pb, po + p1.length, none⟩ := by rw [if_neg (by have := Hpl.out; omega)]
          have HMW := hide (minWidth_any p1.length)
          have Hen := hide (encode_row p1.length (minw p1.length) (isW_minw _) (minw_ok (by omega)) w3)
          have hep : 0 < (enc p1.length (minw p1.length)).length := by rw [enc_length]; exact (minw_pos _).1
          have hep8 : (enc p1.length (minw p1.length)).length ≤ 8 := by rw [enc_length]; exact (minw_pos _).2
          go_wp2_with (go_at_call 13; refine (HMW.out _).mono ?_; rintro e w' ⟨rfl, hw9⟩; have hw8 := hw9.symm; clear hw9; subst hw8)
          refine Hen.out.mono ?_
          rintro e w4 ⟨rfl, hr4, hbe4⟩
          clear Hen HMW
          generalize he4 : enc p1.length (minw p1.length) = e4 at *
          have He4 := hide he4
          have hO4 := hO3.on hbe4
          have hb4 := Below.step hb3 hbe4
          have hll := hr4.lies
          clear he4 hO3 hr4
          have hws5 := hb4.size
          go_wp2_with (at_builtin; go_loud (refine wpList_app8 rfl _ _ rfl rfl hO4 rfl hll hep (by omega) hws5 ?_))
          intro g5 cap5 w5 hO5 hgrow hat hlt5
          have hbe5 := below_app hO4 hws5 hgrow
          have hb5 := hb4.trans hbe5
          have hxe : x0.length + e4.length = (x0 ++ e4).length := List.length_append.symm
          have hxl5 : (x0 ++ e4).length ≤ 9500000 := by rw [← hxe]; omega
          rw [hxe] at hO5 ⊢
          clear hgrow hat hlt5 hws5 hxe hO4
          generalize hx5 : x0 ++ e4 = x5 at *
          have Hx5 := hide hx5
          clear hx5
          have hli := Hlp1.out.of_block (hb5.block pb hpD)
          clear hll hep hep8
          have hws6 := hb5.size
          go_wp2_with (at_builtin; go_loud (refine wpList_app8 rfl _ _ rfl rfl hO5 rfl hli hpos_p1 (by omega) hws6 ?_))
          intro g6 cap6 w6 hO6 hgrow hat hlt6
          have hbe6 := below_app hO5 hws6 hgrow
          have hb6 := hb5.trans hbe6
          have hxe : x5.length + p1.length = (x5 ++ p1).length := List.length_append.symm
          have hxl6 : (x5 ++ p1).length ≤ 11000000 := by rw [← hxe]; omega
          rw [hxe] at hO6 ⊢
          clear hgrow hat hlt6 hws6 hxe hO5
          generalize hx6 : x5 ++ p1 = x6 at *
          have Hx6 := hide hx6
          clear hx6
          clear hli
          have HMW := hide (minWidth_any p2.length)
          have Hen := hide (encode_row p2.length (minw p2.length) (isW_minw _) (minw_ok (by omega)) w6)
          have hep : 0 < (enc p2.length (minw p2.length)).length := by rw [enc_length]; exact (minw_pos _).1
          have hep8 : (enc p2.length (minw p2.length)).length ≤ 8 := by rw [enc_length]; exact (minw_pos _).2
          go_wp2_with (go_at_call 13; refine (HMW.out _).mono ?_; rintro e w' ⟨rfl, hw9⟩; have hw8 := hw9.symm; clear hw9; subst hw8)
          refine Hen.out.mono ?_
          rintro e w10 ⟨rfl, hr10, hbe10⟩
          clear Hen HMW
          generalize he10 : enc p2.length (minw p2.length) = e10 at *
          have He10 := hide he10
          have hO10 := hO6.on hbe10
          have hb10 := Below.step hb6 hbe10
          have hll := hr10.lies
          clear he10 hO6 hr10
          have hws11 := hb10.size
          go_wp2_with (at_builtin; go_loud (refine wpList_app8 rfl _ _ rfl rfl hO10 rfl hll hep (by omega) hws11 ?_))
          intro g11 cap11 w11 hO11 hgrow hat hlt11
          have hbe11 := below_app hO10 hws11 hgrow
          have hb11 := hb10.trans hbe11
          have hxe : x6.length + e10.length = (x6 ++ e10).length := List.length_append.symm
          have hxl11 : (x6 ++ e10).length ≤ 18500000 := by rw [← hxe]; omega
          rw [hxe] at hO11 ⊢
          clear hgrow hat hlt11 hws11 hxe hO10
          generalize hx11 : x6 ++ e10 = x11 at *
          have Hx11 := hide hx11
          clear hx11
          have hli := Hlp2.out.of_block (hb11.block pb hpD)
          clear hll hep hep8
          have hws12 := hb11.size
          go_wp2_with (at_builtin; go_loud (refine wpList_app8 rfl _ _ rfl rfl hO11 rfl hli hpos_p2 (by omega) hws12 ?_))
          intro g12 cap12 w12 hO12 hgrow hat hlt12
          have hbe12 := below_app hO11 hws12 hgrow
          have hb12 := hb11.trans hbe12
          have hxe : x11.length + p2.length = (x11 ++ p2).length := List.length_append.symm
          have hxl12 : (x11 ++ p2).length ≤ 20000000 := by rw [← hxe]; omega
          rw [hxe] at hO12 ⊢
          clear hgrow hat hlt12 hws12 hxe hO11
          generalize hx12 : x11 ++ p2 = x12 at *
          have Hx12 := hide hx12
          clear hx12
          clear hli
          have hxx : x12 = encPre [p1, p2] := by
            rw [← Hx12.out, ← Hx11.out, ← He10.out, ← Hx6.out, ← Hx5.out, ← He4.out, Hx0.out]; simp [encPre, List.append_assoc]
          have Hxx := hide hxx
          clear hxx
          have hflat : [p1, p2].flatten = ps := by rw [Hpp.out]; simp
          have Hflat := hide hflat
          have Hcp : Hid (∀ c ∈ [p1, p2], 0 < c.length) := by
            intro c hc; rcases List.mem_cons.1 hc with h | h
            · rw [h]; exact hpos_p1
            · rw [List.mem_singleton.1 h]; exact hpos_p2
          clear hflat
          have hbn := below_born w12 (.cells #[.int .u8 0] 5)
          have hO20 := hO12.on hbn
          have hb20 := Below.step hb12 hbn
          have hl20 := lies_zero w12
          clear hO12
          go_upto_region 17 with fail
          have hws21 := hb20.size
          go_wp2_with (at_builtin; go_loud (refine wpList_app8 rfl _ _ rfl rfl hO20 rfl hl20 (by decide) (by simp; omega) hws21 ?_))
          intro g21 cap21 w21 hO21 hgrow hat hlt21
          have hbe21 := below_app hO20 hws21 hgrow
          have hb21 := hb20.trans hbe21
          have hxe : x12.length + 1 = (x12 ++ [0]).length := by simp
          have Hx21 : Hid (encAll [p1, p2] ++ [] = x12 ++ [0]) := by rw [encAll_pre, Hxx.out, List.append_nil]; rfl
          have hpos21 : 0 < (x12 ++ [0]).length := by rw [← hxe]; omega
          have hlen21 : (x12 ++ [0]).length ≤ 600000000 := by rw [← hxe]; omega
          rw [hxe] at hO21 ⊢
          clear hgrow hat hlt21 hws21 hxe hO20 hbn hl20 hbe21
          generalize x12 ++ [0] = x21 at *
          obtain ⟨hcap21, hlies21, hlt21⟩ := hO21.dec hpos21
          have hr21 := hr3.of_block (hb21.block _ hr3.lt)
          have hck := zzContent_known (b := w2.heap.size) (o := 0) (cap := km.length) (l := minw ps.length) (zs := ps) (rest := []) (w := w21) (isW_minw _) (minw_ok (by omega)) (by rw [List.append_nil, Hkm.out]; exact Nat.le_refl _) (by rw [List.append_nil, Hkm.out]; exact hr21.lies) hr21.lt (by rw [List.append_nil]; omega)
          rw [List.append_nil, Hkm.out] at hck
          have Hck := hide hck
          have kp21 : Kept w21 (some ⟨pb, po, none⟩) ps := (SlB.frame kp3 (fun b hb => hb21.block b hb)).weaken (fun b hb => Nat.lt_of_lt_of_le hb hb21.size)
          have hb021 : Below w.heap.size w w21 := hb03.trans (hb21.mono hb03.size)
          clear hck hr21 hb21
          go_wp2_with fail
          refine Hck.out.mono ?_
          rintro e w22 ⟨cv, o2, cap2, rfl, ⟨ga, gc, rfl, hgn, hgk⟩, hl22, hb22⟩
          clear Hck
          have hO22 := hO21.on hb22
          obtain ⟨hcap22, hlies22, hlt22⟩ := hO22.dec hpos21
          have hcc' := zzContent_chunks (b := g21) (o := 0) (cap := cap21) (cs := [p1, p2]) (rest := []) (w := w22) (by rw [Hx21.out]; exact hcap22) (by rw [Hx21.out]; exact hlies22) hlt22 Hcp.out (by rw [Hflat.out]; exact hlen) (by rw [Hx21.out]; omega)
          rw [Hx21.out, Hflat.out] at hcc'
          have Hcc := hide hcc'
          have kp22 := kp21.on hb22
          have hb022 := Below.step hb021 hb22
          clear hcc' hO21 hO22 hlies21 hlies22 hcap21 hcap22 hlt21 hlt22 kp21 hb021 hb22 hl22
          have hnl : ([] : List Int).length = 0 := rfl
          go_wp2_with fail
          refine Hcc.out.mono ?_
          rintro e w23 ⟨cv2, o3, cap3, rfl, ⟨ga2, gc2, rfl, hgn2, hgk2⟩, hl23, hb23⟩
          clear Hcc
          have Heq1 := hide (equal_kept (c := gc) (c2 := c') (hgk.on hb23) (kp22.on hb23) (by omega))
          have kp23 := kp22.on hb23
          have hb023 := Below.step hb022 hb23
          have hnn1 := fun w' => Lib.run_eql_slice_nil (P := Try.prog) w' 23 5 ga ps.length gc 0 0 Try.underlying23
          have hnn2 := fun w' => Lib.run_eql_slice_nil (P := Try.prog) w' 23 5 ga2 ps.length gc2 0 0 Try.underlying23
          clear hgk kp22 hb23 hb022 hl23
          go_wp2_with fail
          refine Heq1.out.mono ?_
          rintro e w24 ⟨rfl, q, rfl⟩
          clear Heq1
          have Heq2 := hide (equal_kept (w := w23.drewN q) (c := gc2) (c2 := c') (hgk2.drewN q) (kp23.drewN q) (by omega))
          have hb024 := Below.drewN hb023 q
          clear hgk2 kp23 hb023
          generalize w23.drewN q = w24 at *
          generalize hyz : ((ps.length : Int) == 0) = yz at *
          cases yz
          all_goals
            go_wp2_with fail
            refine Heq2.out.mono ?_
            rintro e w25 ⟨rfl, q, rfl⟩
            clear Heq2
            go_wp2_with fail
            go_ret
            exact ⟨rfl, Below.drewN hb024 q⟩
  · have hb1 : decide ((1048576 : Int) < (ps.length : Int)) = true := decide_eq_true (by omega)
    go_enter Try.func8, Try.ntmps8
    go_wp2_with (first | (go_at_call 25; refine hB9.mono ?_; rintro e w' ⟨⟨r, rfl⟩, hw9⟩; have hw8 := hw9.symm; clear hw9; subst hw8))
    all_goals (go_ret; exact ⟨rfl, Below.refl _ _⟩)
end Go.Proofs.Qxb6600403a

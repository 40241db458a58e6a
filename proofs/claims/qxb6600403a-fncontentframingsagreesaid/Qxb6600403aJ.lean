import Derived.Test.Qxb6600403aI
namespace Go.Proofs.Qxb6600403a
open Go.RowKit
set_option linter.unusedVariables false
set_option linter.unusedSimpArgs false

/-- what a content is read as: nil where it is empty -/
def Got (w : World) (v : Value) (zs : List Int) : Prop := ∃ a c, v = .slice a zs.length c ∧ a.isNone = ((zs.length : Int) == 0) ∧ Kept w a zs

theorem OwnB.got {B : Nat} {w : World} {v : Value} {zs : List Int} (h : OwnB B w v zs) : Got w v zs := by
  obtain ⟨a, c, rfl, h1, _⟩ := h.form
  exact ⟨a, c, rfl, h1, h.kept⟩

def CkPost (db b : Nat) (zs rest : List Int) (w : World) (e : Ending) (w' : World) : Prop :=
  ∃ cv o2 cap2, e = .returned (.tuple #[cv, .bool true]) ∧ Got w' cv zs ∧ Dec w' db b o2 cap2 rest ∧ SameBut db w w'

set_option maxHeartbeats 800000 in
theorem content_known {db b o cap l : Nat} {zs rest : List Int} {w : World} (hl : IsW l) (hv : zs.length < 2 ^ (8 * l - 2)) (h : Dec w db b o cap (enc zs.length l ++ (zs ++ rest))) (hn : (zs ++ rest).length ≤ 1099511627000) (hb : b < w.heap.size) :
    Calls Try.prog 29 #[.pointer (some ⟨db, 0, none⟩), .bool true] w fun e w' => CkPost db b zs rest w e w' := by
  have hl8 : 1 ≤ l ∧ l ≤ 8 := by rcases hl with h | h | h | h <;> omega
  have hl0 : 0 < (enc zs.length l ++ (zs ++ rest)).length := by rw [List.length_append, enc_length]; omega
  have HV := hide (vector_dec hl hv h hn)
  have hn2 : (enc zs.length l ++ (zs ++ rest)).length ≤ 1099511627100 := by rw [List.length_append, enc_length]; omega
  have hzl : zs.length ≤ 1099511627000 := by rw [List.length_append] at hn; omega
  have c0 := h.row.cell (i := 0) (by decide)
  have hnb : (((enc zs.length l ++ (zs ++ rest)).length : Int) == 0) = false := beq_eq_false_iff_ne.2 (by omega)
  clear h hn
  generalize (enc zs.length l ++ (zs ++ rest)).length = nn at *
  go_enter Try.func29, Try.ntmps29
  go_wp2_with (go_at_call 28; refine HV.out.mono ?_)
  rintro e w1 ⟨o1, o2, cap2, rfl, hl1, hD1, hS1⟩
  clear HV c0
  by_cases hz : zs.length = 0
  · have hzb : ((zs.length : Int) == 0) = true := by rw [hz]; rfl
    go_wp2_with fail
    go_ret2
    refine ⟨_, o2, cap2, rfl, ⟨none, 0, by rw [hz]; rfl, hzb.symm, fun k hk => by omega⟩, hD1, hS1⟩
  · have hzb : ((zs.length : Int) == 0) = false := beq_eq_false_iff_ne.2 (by omega)
    go_wp2_with fail
    go_ret2
    refine ⟨_, o2, cap2, rfl, ⟨_, _, rfl, hzb.symm, hl1.kept (by rw [hS1.size]; exact hb)⟩, hD1, hS1⟩

def ZCtPost (b : Nat) (zs rest : List Int) (w : World) (e : Ending) (w' : World) : Prop :=
  ∃ cv o2 cap2, e = .returned (.tuple #[cv, .slice (some ⟨b, o2, none⟩) rest.length cap2, .bool true]) ∧ Got w' cv zs ∧ Lies w' b o2 rest ∧ Below w.heap.size w w'

theorem Got.drewN {w : World} {v : Value} {zs : List Int} (h : Got w v zs) (q : Nat) : Got (w.drewN q) v zs := h

set_option maxHeartbeats 800000 in
theorem zzContent_known {b o cap l : Nat} {zs rest : List Int} {w : World} (hl : IsW l) (hv : zs.length < 2 ^ (8 * l - 2)) (hc : (enc zs.length l ++ (zs ++ rest)).length ≤ cap) (h : Lies w b o (enc zs.length l ++ (zs ++ rest))) (hb : b < w.heap.size) (hn : (zs ++ rest).length ≤ 1099511627000) :
    Calls Try.prog 24 #[.slice (some ⟨b, o, none⟩) (enc zs.length l ++ (zs ++ rest)).length cap, .bool true] w fun e w' => ZCtPost b zs rest w e w' := by
  have HV := hide (content_known hl hv (Dec.born hc h hb) hn (by simp; omega))
  have hb0 := below_born w (.cells #[.slice (some ⟨b, o, none⟩) (enc zs.length l ++ (zs ++ rest)).length cap] 47)
  clear h
  generalize (enc zs.length l ++ (zs ++ rest)).length = nn at *
  go_enter Try.func24, Try.ntmps24
  go_wp2_with (go_at_call 29; refine HV.out.mono ?_)
  rintro e w1 ⟨cv, o2, cap2, rfl, hG, hD, hS⟩
  clear HV
  have c0 := hD.row.cell (i := 0) (by decide)
  have hb1 := hS.below hb0 (Nat.le_refl _) (by simp)
  have hll := hD.lies
  clear hD hS hb0
  go_wp2_with fail
  go_quiet (fail)
  go_wp2_with fail
  go_ret3
  exact ⟨cv, o2, cap2, rfl, hG, hll, Below.drewN hb1 _⟩

set_option maxHeartbeats 800000 in
theorem zzContent_chunks {b o cap : Nat} {cs : List (List Int)} {rest : List Int} {w : World} (hc : (encAll cs ++ rest).length ≤ cap) (h : Lies w b o (encAll cs ++ rest)) (hb : b < w.heap.size) (hne : ∀ c ∈ cs, 0 < c.length) (hsum : cs.flatten.length ≤ 1048576) (hn : (encAll cs ++ rest).length ≤ 1099511627000) :
    Calls Try.prog 24 #[.slice (some ⟨b, o, none⟩) (encAll cs ++ rest).length cap, .bool false] w fun e w' => ZCtPost b cs.flatten rest w e w' := by
  have HV := hide (content_chunks (Dec.born hc h hb) hne hsum hn (by simp; omega))
  clear h
  generalize (encAll cs ++ rest).length = nn at *
  go_enter Try.func24, Try.ntmps24
  go_wp2_with (go_at_call 29; refine HV.out.mono ?_)
  rintro e w1 ⟨cv, o2, cap2, rfl, hO, hD, hF⟩
  clear HV
  have c0 := hD.row.cell (i := 0) (by decide)
  have hb1 := hF.to rfl
  have hll := hD.lies
  have hG := hO.got
  clear hD hF hO
  go_wp2_with fail
  go_quiet (fail)
  go_wp2_with fail
  go_ret3
  exact ⟨cv, o2, cap2, rfl, hG, hll, Below.drewN hb1 _⟩
end Go.Proofs.Qxb6600403a

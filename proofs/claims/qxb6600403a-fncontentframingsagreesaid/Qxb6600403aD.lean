import Derived.Test.Qxb6600403aC
namespace Go.Proofs.Qxb6600403a
open Go.RowKit
set_option linter.unusedVariables false
set_option linter.unusedSimpArgs false

theorem tag_one : tag 1 = 0 := rfl
theorem shl_width {l e0 : Nat} (hl : IsW l) (he : e0 < 64) : wrap64 (2 ^ (((e0 + tag l : Nat) : Int) / 64).toNat) = (l : Int) := by
  have h : ∀ k : Nat, ((e0 + tag l : Nat) : Int) / 64 = (k : Int) → k ≤ 3 → l = 2 ^ k → wrap64 (2 ^ (((e0 + tag l : Nat) : Int) / 64).toNat) = (l : Int) := fun k h1 h2 h3 => by
    have h4 : l ≤ 8 := by rcases hl with h | h | h | h <;> omega
    have : (2 : Int) ^ (k : Int).toNat = (l : Int) := by rw [h3]; simp
    rw [h1, this]
    unfold wrap64
    omega
  rcases hl with rfl | rfl | rfl | rfl
  · exact h 0 (by rw [tag_one]; omega) (by omega) rfl
  · exact h 1 (by simp [tag]; omega) (by omega) rfl
  · exact h 2 (by simp [tag]; omega) (by omega) rfl
  · exact h 3 (by simp [tag]; omega) (by omega) rfl

theorem mask_width {l e0 : Nat} (hl : IsW l) (he : e0 < 64) : bits .and .u8 ((e0 + tag l : Nat) : Int) 63 = (e0 : Int) := by
  have ht : tag l ≤ 192 := tag_le l
  have h1 : bits .and .u8 ((e0 + tag l : Nat) : Int) 63 = ((e0 + tag l : Nat) : Int) % 64 := bits_mask .u8 8 (by decide) wraps_u8 6 (by decide) _ (by omega) (by omega)
  rw [h1]
  have h2 : tag l % 64 = 0 := by rcases hl with rfl | rfl | rfl | rfl <;> rfl
  omega

theorem or_step (x c : Nat) (hx : x < 2 ^ 56) (hc : c < 256) : bits .or .u64 ((x : Int) * 256) (c : Int) = ((x * 256 + c : Nat) : Int) := by
  rw [bits_join .u64 64 (by decide) (fun n h0 h1 => by rw [IntKind.wrap_u64]; omega) 8 ((x : Int) * 256) (c : Int) (by omega) (by omega) (by omega) (by omega) (by omega) (by omega)]
  omega

/-- where a slice begins behind a cut at l: Go does not let it point past its end -/
def adv (o l cap : Nat) : Nat := if cap = l then o else o + l
theorem adv_if (b o l cap : Nat) : (if cap = l then some (⟨b, o, none⟩ : Addr) else some ⟨b, o + l, none⟩) = some ⟨b, adv o l cap, none⟩ := by unfold adv; split <;> rfl
theorem adv_lt {o l cap : Nat} (h : l < cap) : adv o l cap = o + l := by unfold adv; rw [if_neg (by omega)]

theorem eb_first {v l : Nat} (hl : IsW l) (hv : v < 2 ^ (8 * l - 2)) : eb v l 0 = v / 256 ^ (l - 1 - 0) := by
  have h : ∀ m, v < m * 64 → 0 < m → v / m % 256 = v / m := fun m h1 h2 => Nat.mod_eq_of_lt (Nat.lt_of_lt_of_le ((Nat.div_lt_iff_lt_mul h2).2 (by rw [Nat.mul_comm]; exact h1)) (show 64 ≤ 256 by decide))
  unfold eb
  rcases hl with rfl | rfl | rfl | rfl
  · exact h 1 (by simpa using hv) (by decide)
  · exact h 256 (by simpa using hv) (by decide)
  · exact h (256 ^ 3) (by simpa using hv) (by decide)
  · exact h (256 ^ 7) (by simpa using hv) (by decide)

theorem enc_step (v l j : Nat) (h : j < l - 1) : v / 256 ^ (l - 1 - j) * 256 + eb v l (j + 1) = v / 256 ^ (l - 1 - (j + 1)) := by
  unfold eb
  rw [show l - 1 - j = (l - 1 - (j + 1)) + 1 by omega, div_step]
  omega

theorem enc_bound {v l j : Nat} (hv : v < 2 ^ (8 * l - 2)) (hl : l ≤ 8) (h : j < l - 1) : v / 256 ^ (l - 1 - j) < 2 ^ 56 := by
  have h1 : v < 2 ^ 62 := Nat.lt_of_lt_of_le hv (Nat.pow_le_pow_right (by omega) (by omega))
  rw [show l - 1 - j = (l - 1 - (j + 1)) + 1 by omega, div_step]
  have h2 : v / 256 ^ (l - 1 - (j + 1)) ≤ v := Nat.div_le_self _ _
  omega

def ViPost (db b o n cap v l : Nat) (w : World) (e : Ending) (w' : World) : Prop :=
  e = .returned (.tuple #[.int .u64 (v : Int), .bool true]) ∧ w' = w.setCell ⟨db, 0, none⟩ (.slice (some ⟨b, adv o l cap, none⟩) (n - l) (cap - l))

set_option maxHeartbeats 800000 in
theorem varint_any (db b o n cap v l : Nat) (w : World) (hl : IsW l) (hv : v < 2 ^ (8 * l - 2)) (hln : l ≤ n) (hnc : n ≤ cap) (hn : n ≤ 1099511627776)
    (hd : w.cell? ⟨db, 0, none⟩ = some (.slice (some ⟨b, o, none⟩) n cap)) (hz : w.frozen? ⟨db, 0, none⟩ = false)
    (hc : ∀ j, j < l → w.cell? ⟨b, o + j, none⟩ = some (.int .u8 ((enc v l).getD j 0))) :
    Calls Try.prog 27 #[.pointer (some ⟨db, 0, none⟩)] w fun e w' => ViPost db b o n cap v l w e w' := by
  have hl8 : 1 ≤ l ∧ l ≤ 8 := by rcases hl with h | h | h | h <;> omega
  have he0 := eb_zero hl hv
  have c0 := hc 0 (by omega)
  rw [enc_getD v l 0 (by omega), Nat.add_zero] at c0
  simp only [if_true] at c0
  have hsh := shl_width hl he0
  have hmk := mask_width hl he0
  have hln2 : decide ((n : Int) < (l : Int)) = false := decide_eq_false (by omega)
  have hn0 : ((n : Int) == 0) = false := by simp; omega
  have hx0 : (0 : Int) ≤ ((eb v l 0 + tag l : Nat) : Int) := by omega
  have hx1 : ((eb v l 0 + tag l : Nat) : Int) < 256 := by have := tag_le l; omega
  have ha1 := adv_if b o 1 cap
  have ha2 := adv_if b o l cap
  generalize ho1 : adv o 1 cap = o1 at *
  generalize ((eb v l 0 + tag l : Nat) : Int) = x at *
  go_enter Try.func27, Try.ntmps27
  go_wp2_with fail
  rw [hsh]
  have he00 : eb v l 0 = v / 256 ^ (l - 1 - 0) := eb_first hl hv
  have Hv := hide hv
  have HE := hide he00
  have Hho := hide ho1
  clear hmk he00 c0 hv ho1
  go_loopg [5, 7, 44] (l - 1) (fun g xv cv iv wr => ∃ j : Nat, j ≤ l - 1 ∧ g = l - 1 - j ∧ iv = .int .i64 j ∧ xv = .int .u64 ((v / 256 ^ (l - 1 - j) : Nat) : Int) ∧ wr = w)
  case atStart => exact ⟨0, by omega, rfl, rfl, by rw [HE.out], rfl⟩
  case round =>
    clear HE
    obtain ⟨j, hj, hg, rfl, rfl, rfl⟩ := hrel
    have Hg := hide hg
    clear hg
    by_cases hlt : j < l - 1
    · have cj := hc (j + 1) (by omega)
      have hoo : o1 = o + 1 := by rw [← Hho.out]; exact adv_lt (by omega)
      rw [enc_getD v l (j + 1) (by omega), if_neg (by omega)] at cj
      have cj' : wr.cell? ⟨b, o1 + j, none⟩ = some (.int .u8 ((eb v l (j + 1) : Nat) : Int)) := by rw [hoo, show o + 1 + j = o + (j + 1) by omega]; exact cj
      have hst := enc_step v l j hlt
      have hxb : v / 256 ^ (l - 1 - j) < 2 ^ 56 := enc_bound Hv.out hl8.2 hlt
      have hcb : eb v l (j + 1) < 256 := Nat.mod_lt _ (by decide)
      have hor := or_step _ _ hxb hcb
      have hjl : (j : Int) < ((l - 1 : Nat) : Int) := by omega
      have Hst := hide hst
      have hsh2 : IntKind.u64.wrap (((v / 256 ^ (l - 1 - j) : Nat) : Int) * 256) = ((v / 256 ^ (l - 1 - j) : Nat) : Int) * 256 := by rw [IntKind.wrap_u64]; omega
      clear cj hst hoo
      generalize v / 256 ^ (l - 1 - j) = y at *
      generalize eb v l (j + 1) = c at *
      go_wp2
      go_roundg (l - 1 - (j + 1))
      case measure => rw [Hg.out]; omega
      case rel => exact ⟨j + 1, by omega, rfl, by go_num, by rw [← Hst.out]; go_num, rfl⟩
    · obtain rfl : j = l - 1 := by omega
      have hvv : v / 256 ^ (l - 1 - (l - 1)) = v := by simp
      rw [hvv]
      go_wp2
      go_ret2
      exact ⟨rfl, rfl⟩
end Go.Proofs.Qxb6600403a

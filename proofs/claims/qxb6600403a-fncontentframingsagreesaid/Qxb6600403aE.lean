import Derived.Test.Qxb6600403aD
import Derived.OwnWalk
namespace Go.Proofs.Qxb6600403a
open Go.RowKit
set_option linter.unusedVariables false
set_option linter.unusedSimpArgs false

/-- bytes that lie from cell o of block b on -/
def Lies (w : World) (b o : Nat) (zs : List Int) : Prop := ∀ k, k < zs.length → w.cell? ⟨b, o + k, none⟩ = some (.int .u8 (zs.getD k 0))

theorem Lies.of_block {w w' : World} {b o : Nat} {zs : List Int} (h : Lies w b o zs) (e : w'.heap[b]? = w.heap[b]?) : Lies w' b o zs := fun k hk => (World.cell?_of_block (w := w) e).trans (h k hk)
theorem Lies.left {w : World} {b o : Nat} {xs ys : List Int} (h : Lies w b o (xs ++ ys)) : Lies w b o xs := fun k hk => by
  have := h k (by simp; omega)
  rw [getD_app, if_pos hk] at this
  exact this
theorem Lies.right {w : World} {b o : Nat} {xs ys : List Int} (h : Lies w b o (xs ++ ys)) : Lies w b (o + xs.length) ys := fun k hk => by
  have := h (xs.length + k) (by simp; omega)
  rw [getD_app, if_neg (by omega), Nat.add_sub_cancel_left, ← Nat.add_assoc] at this
  exact this
theorem Lies.nil {w : World} {b o : Nat} : Lies w b o [] := fun k hk => by simp at hk
theorem Lies.sl {D : Nat → Prop} {w : World} {b o : Nat} {zs : List Int} (h : Lies w b o zs) (hb : D b) : SlB D w (some ⟨b, o, none⟩) zs := fun k hk => ⟨b, o, rfl, hb, h k hk⟩
theorem RowB.lies {w : World} {b : Nat} {zs : List Int} (h : RowB w b zs) : Lies w b 0 zs := fun k hk => by rw [Nat.zero_add]; exact h.cell hk

theorem Lies.adv {w : World} {b o cap : Nat} {xs ys : List Int} (h : Lies w b o (xs ++ ys)) (hc : (xs ++ ys).length ≤ cap) : Lies w b (adv o xs.length cap) ys := by
  by_cases hy : ys = []
  · subst hy; exact Lies.nil
  · have : xs.length < cap := by
      have : 0 < ys.length := by cases ys <;> simp_all
      simp at hc
      omega
    rw [adv_lt this]
    exact h.right

structure SameBut (b : Nat) (w w' : World) : Prop where
  os : w'.os = w.os
  tape : w'.tape = w.tape
  output : w'.output = w.output
  size : w'.heap.size = w.heap.size
  block : ∀ k, k ≠ b → w'.heap[k]? = w.heap[k]?

theorem SameBut.refl (b : Nat) (w : World) : SameBut b w w := ⟨rfl, rfl, rfl, rfl, fun _ _ => rfl⟩
theorem SameBut.set {b : Nat} {w w' : World} (h : SameBut b w w') (o : Nat) (v : Value) : SameBut b w (w'.setCell ⟨b, o, none⟩ v) :=
  ⟨h.os, h.tape, h.output, by simp [World.setCell]; exact h.size, fun k hk => (Below.heap_setCell _ _ _ _ (by simpa using hk)).trans (h.block k hk)⟩
theorem SameBut.trans {b : Nat} {w w' w'' : World} (h : SameBut b w w') (k : SameBut b w' w'') : SameBut b w w'' :=
  ⟨k.os.trans h.os, k.tape.trans h.tape, k.output.trans h.output, k.size.trans h.size, fun i hi => (k.block i hi).trans (h.block i hi)⟩
theorem SameBut.drewN {b : Nat} {w w' : World} (h : SameBut b w w') (q : Nat) : SameBut b w (w'.drewN q) := ⟨h.os, h.tape, h.output, h.size, h.block⟩
theorem SameBut.below {b B : Nat} {w w0 w' : World} (h : SameBut b w w') (k : Below B w0 w) (hb : B ≤ b) (hB : B ≤ w.heap.size) : Below B w0 w' :=
  ⟨h.os.trans k.os, h.tape.trans k.tape, h.output.trans k.output, by rw [h.size]; exact k.size, fun i hi => (h.block i (by omega)).trans (k.block i hi)⟩

/-- a decoder that holds these bytes -/
structure Dec (w : World) (db b o cap : Nat) (zs : List Int) : Prop where
  row : w.rowIs db 47 1 (fun _ => .slice (some ⟨b, o, none⟩) zs.length cap)
  cap : zs.length ≤ cap
  lies : Lies w b o zs
  ne : b ≠ db

def VarPost (db b : Nat) (v : Nat) (rest : List Int) (w : World) (e : Ending) (w' : World) : Prop :=
  ∃ o2 cap2, e = .returned (.tuple #[.int .u64 (v : Int), .bool true]) ∧ Dec w' db b o2 cap2 rest ∧ SameBut db w w'

theorem varint_dec {db b o cap v l : Nat} {rest : List Int} {w : World} (hl : IsW l) (hv : v < 2 ^ (8 * l - 2)) (h : Dec w db b o cap (enc v l ++ rest)) (hn : rest.length ≤ 1099511627000) :
    Calls Try.prog 27 #[.pointer (some ⟨db, 0, none⟩)] w fun e w' => VarPost db b v rest w e w' := by
  have hl8 : 1 ≤ l ∧ l ≤ 8 := by rcases hl with h | h | h | h <;> omega
  have hcap := h.cap
  rw [List.length_append, enc_length] at hcap
  have hrow := h.row
  refine (varint_any db b o (enc v l ++ rest).length cap v l w hl hv (by rw [List.length_append, enc_length]; omega) h.cap (by rw [List.length_append, enc_length]; omega) (hrow.cell (by decide)) (hrow.frozen 0)
    (fun j hj => h.lies.left j (by rw [enc_length]; exact hj))).mono ?_
  rintro e w' ⟨rfl, rfl⟩
  have hs : SameBut db w (w.setCell ⟨db, 0, none⟩ (.slice (some ⟨b, adv o l cap, none⟩) ((enc v l ++ rest).length - l) (cap - l))) := (SameBut.refl db w).set _ _
  have hla := h.lies.adv h.cap
  rw [enc_length] at hla
  have hlen : (enc v l ++ rest).length - l = rest.length := by rw [List.length_append, enc_length]; omega
  rw [hlen] at hs ⊢
  refine ⟨adv o l cap, cap - l, rfl, ⟨(hrow.set 0 _).congr (fun i hi => by rw [if_pos (by omega)]), by omega, hla.of_block (hs.block b h.ne), h.ne⟩, hs⟩

def VecPost (db b : Nat) (zs rest : List Int) (w : World) (e : Ending) (w' : World) : Prop :=
  ∃ o1 o2 cap2, e = .returned (.tuple #[.slice (some ⟨b, o1, none⟩) zs.length zs.length, .bool true]) ∧ Lies w' b o1 zs ∧ Dec w' db b o2 cap2 rest ∧ SameBut db w w'

set_option maxHeartbeats 800000 in
theorem vector_dec {db b o cap l : Nat} {zs rest : List Int} {w : World} (hl : IsW l) (hv : zs.length < 2 ^ (8 * l - 2)) (h : Dec w db b o cap (enc zs.length l ++ (zs ++ rest))) (hn : (zs ++ rest).length ≤ 1099511627000) :
    Calls Try.prog 28 #[.pointer (some ⟨db, 0, none⟩)] w fun e w' => VecPost db b zs rest w e w' := by
  have HV := hide (varint_dec hl hv h hn)
  rw [List.length_append] at hn
  clear h
  go_enter Try.func28, Try.ntmps28
  go_wp2_with (go_at_call 27; refine HV.out.mono ?_)
  rintro e w1 ⟨o2, cap2, rfl, hD, hS⟩
  clear HV
  have c0 := hD.row.cell (i := 0) (by decide)
  have z0 := hD.row.frozen 0
  have hcap := hD.cap
  rw [List.length_append] at c0 hcap
  have hle : ((zs.length : Int) ≤ ((zs.length + rest.length : Nat) : Int)) := by omega
  have ha2 := adv_if b o2 zs.length cap2
  have hs1 : SameBut db w (w1.setCell ⟨db, 0, none⟩ (.slice (some ⟨b, adv o2 zs.length cap2, none⟩) rest.length (cap2 - zs.length))) := hS.set _ _
  have hrn := hD.row.set 0 (.slice (some ⟨b, adv o2 zs.length cap2, none⟩) rest.length (cap2 - zs.length))
  have hs2 := ((SameBut.refl db w1).set 0 (.slice (some ⟨b, adv o2 zs.length cap2, none⟩) rest.length (cap2 - zs.length))).block b hD.ne
  have Hl := hide hD.lies
  have hne := hD.ne
  have hca := hD.cap
  clear hD
  go_wp2_with fail
  go_ret2
  exact ⟨o2, adv o2 zs.length cap2, cap2 - zs.length, rfl, Hl.out.left.of_block hs2, ⟨hrn.congr (fun i hi => by rw [if_pos (by omega)]), by omega, (Hl.out.adv hca).of_block hs2, hne⟩, hs1⟩

theorem Below.drewN {B : Nat} {a w : World} (h : Below B a w) (q : Nat) : Below B a (w.drewN q) := ⟨h.os, h.tape, h.output, h.size, h.block⟩

/-- the decoder's birth -/
theorem Dec.born {w : World} {b o cap : Nat} {zs : List Int} (hc : zs.length ≤ cap) (h : Lies w b o zs) (hb : b < w.heap.size) : Dec (w.alloc (.cells #[.slice (some ⟨b, o, none⟩) zs.length cap] 47)) w.heap.size b o cap zs :=
  ⟨World.rowIs_alloc w #[.slice (some ⟨b, o, none⟩) zs.length cap] 47 _ (fun i hi => by
    have h0 : i = 0 := by simpa using hi
    subst h0
    rfl), hc, h.of_block (Below.heap_alloc w _ b hb), by omega⟩

theorem below_born (w : World) (o : Obj) : Below w.heap.size w (w.alloc o) := (Below.refl _ _).alloc (Nat.le_refl _) _

def ZVarPost (v b : Nat) (rest : List Int) (w : World) (e : Ending) (w' : World) : Prop :=
  ∃ o2 cap2, e = .returned (.tuple #[.int .u64 (v : Int), .slice (some ⟨b, o2, none⟩) rest.length cap2, .bool true]) ∧ Lies w' b o2 rest ∧ Below w.heap.size w w'

set_option maxHeartbeats 800000 in
theorem zzVarint {b o cap v l : Nat} {rest : List Int} {w : World} (hl : IsW l) (hv : v < 2 ^ (8 * l - 2)) (hc : (enc v l ++ rest).length ≤ cap) (h : Lies w b o (enc v l ++ rest)) (hb : b < w.heap.size) (hn : rest.length ≤ 1099511627000) :
    Calls Try.prog 16 #[.slice (some ⟨b, o, none⟩) (enc v l ++ rest).length cap] w fun e w' => ZVarPost v b rest w e w' := by
  have HV := hide (varint_dec hl hv (Dec.born hc h hb) hn)
  have hb0 := below_born w (.cells #[.slice (some ⟨b, o, none⟩) (enc v l ++ rest).length cap] 47)
  clear h
  generalize (enc v l ++ rest).length = nn at *
  go_enter Try.func16, Try.ntmps16
  go_wp2_with (go_at_call 27; refine HV.out.mono ?_)
  rintro e w1 ⟨o2, cap2, rfl, hD, hS⟩
  clear HV
  have c0 := hD.row.cell (i := 0) (by decide)
  have hb1 := hS.below hb0 (Nat.le_refl _) (by simp)
  have hll := hD.lies
  clear hD hS hb0
  go_wp2_with fail
  go_quiet (fail)
  go_wp2_with fail
  go_ret3
  exact ⟨o2, cap2, rfl, hll, Below.drewN hb1 _⟩

def ZVecPost (b : Nat) (zs rest : List Int) (w : World) (e : Ending) (w' : World) : Prop :=
  ∃ o1 o2 cap2, e = .returned (.tuple #[.slice (some ⟨b, o1, none⟩) zs.length zs.length, .slice (some ⟨b, o2, none⟩) rest.length cap2, .bool true]) ∧ Lies w' b o1 zs ∧ Lies w' b o2 rest ∧ Below w.heap.size w w'

set_option maxHeartbeats 800000 in
theorem zzVector {b o cap l : Nat} {zs rest : List Int} {w : World} (hl : IsW l) (hv : zs.length < 2 ^ (8 * l - 2)) (hc : (enc zs.length l ++ (zs ++ rest)).length ≤ cap) (h : Lies w b o (enc zs.length l ++ (zs ++ rest))) (hb : b < w.heap.size) (hn : (zs ++ rest).length ≤ 1099511627000) :
    Calls Try.prog 20 #[.slice (some ⟨b, o, none⟩) (enc zs.length l ++ (zs ++ rest)).length cap] w fun e w' => ZVecPost b zs rest w e w' := by
  have HV := hide (vector_dec hl hv (Dec.born hc h hb) hn)
  have hb0 := below_born w (.cells #[.slice (some ⟨b, o, none⟩) (enc zs.length l ++ (zs ++ rest)).length cap] 47)
  clear h
  generalize (enc zs.length l ++ (zs ++ rest)).length = nn at *
  go_enter Try.func20, Try.ntmps20
  go_wp2_with (go_at_call 28; refine HV.out.mono ?_)
  rintro e w1 ⟨o1, o2, cap2, rfl, hl1, hD, hS⟩
  clear HV
  have c0 := hD.row.cell (i := 0) (by decide)
  have hb1 := hS.below hb0 (Nat.le_refl _) (by simp)
  have hll := hD.lies
  clear hD hS hb0
  go_wp2_with fail
  go_quiet (fail)
  go_wp2_with fail
  go_ret3
  exact ⟨o1, o2, cap2, rfl, hl1, hll, Below.drewN hb1 _⟩
end Go.Proofs.Qxb6600403a

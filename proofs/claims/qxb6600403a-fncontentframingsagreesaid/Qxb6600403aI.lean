import Derived.Test.Qxb6600403aH
namespace Go.Proofs.Qxb6600403a
open Go.RowKit
set_option linter.unusedVariables false
set_option linter.unusedSimpArgs false

/-- chunks, each behind its length, and a zero -/
def encAll : List (List Int) → List Int
  | [] => [0]
  | c :: cs => enc c.length (minw c.length) ++ (c ++ encAll cs)

theorem enc_zero : enc 0 1 = [0] := by decide

theorem minw_pos (v : Nat) : 1 ≤ minw v ∧ minw v ≤ 8 := by rcases isW_minw v with h | h | h | h <;> omega
theorem encAll_pos : ∀ cs : List (List Int), 0 < (encAll cs).length
  | [] => by simp [encAll]
  | c :: cs => by
    rw [encAll, List.length_append, enc_length]
    have := minw_pos c.length
    omega
theorem encAll_nil (rest : List Int) : encAll [] ++ rest = enc ([] : List Int).length 1 ++ ([] ++ rest) := by
  have : enc ([] : List Int).length 1 = [0] := enc_zero
  rw [this]
  rfl
theorem encAll_cons (c : List Int) (cs : List (List Int)) (rest : List Int) : encAll (c :: cs) ++ rest = enc c.length (minw c.length) ++ (c ++ (encAll cs ++ rest)) := by
  rw [encAll, List.append_assoc, List.append_assoc]
theorem flatten_le {cs ds es : List (List Int)} {c : List Int} (h : cs = ds ++ c :: es) : ds.flatten.length + c.length ≤ cs.flatten.length := by
  subst h
  simp
theorem flatten_snoc (ds : List (List Int)) (c : List Int) : (ds ++ [c]).flatten = ds.flatten ++ c := by simp

structure Frm (B db : Nat) (w w' : World) : Prop where
  os : w'.os = w.os
  tape : w'.tape = w.tape
  output : w'.output = w.output
  size : w.heap.size ≤ w'.heap.size
  block : ∀ k, k < B → k ≠ db → w'.heap[k]? = w.heap[k]?

theorem Frm.refl (B db : Nat) (w : World) : Frm B db w w := ⟨rfl, rfl, rfl, Nat.le_refl _, fun _ _ _ => rfl⟩
theorem Frm.same {B db : Nat} {w w1 w2 : World} (h : Frm B db w w1) (k : SameBut db w1 w2) : Frm B db w w2 :=
  ⟨k.os.trans h.os, k.tape.trans h.tape, k.output.trans h.output, by rw [k.size]; exact h.size, fun i hi hn => (k.block i hn).trans (h.block i hi hn)⟩
theorem Frm.below {B db : Nat} {w w1 w2 : World} (h : Frm B db w w1) (k : Below B w1 w2) : Frm B db w w2 :=
  ⟨k.os.trans h.os, k.tape.trans h.tape, k.output.trans h.output, Nat.le_trans h.size k.size, fun i hi hn => (k.block i hi).trans (h.block i hi hn)⟩
theorem Frm.to {w0 w w' : World} {o : Obj} (hw : w = w0.alloc o) (h : Frm w.heap.size w0.heap.size w w') : Below w0.heap.size w0 w' := by
  subst hw
  have hb := below_born w0 o
  exact ⟨h.os.trans hb.os, h.tape.trans hb.tape, h.output.trans hb.output, Nat.le_trans hb.size h.size, fun i hi => (h.block i (Nat.lt_of_lt_of_le hi hb.size) (by omega)).trans (hb.block i hi)⟩

theorem Dec.on {w w' : World} {db b o cap : Nat} {zs : List Int} (h : Dec w db b o cap zs) (hd : w'.heap[db]? = w.heap[db]?) (hb : w'.heap[b]? = w.heap[b]?) : Dec w' db b o cap zs :=
  ⟨h.row.of_block hd, h.cap, h.lies.of_block hb, h.ne⟩

theorem OwnB.gen {B : Nat} {w : World} {v : Value} {zs : List Int} (h : OwnB B w v zs) : ∃ xs, Hid (xs = zs) ∧ OwnB B w v xs := ⟨zs, hide rfl, h⟩

def CtPost (db b : Nat) (zs rest : List Int) (w : World) (e : Ending) (w' : World) : Prop :=
  ∃ cv o2 cap2, e = .returned (.tuple #[cv, .bool true]) ∧ OwnB w.heap.size w' cv zs ∧ Dec w' db b o2 cap2 rest ∧ Frm w.heap.size db w w'

def CtRel (cs : List (List Int)) (rest : List Int) (w0 : World) (db b : Nat) (g : Nat) (cv : Value) (wr : World) : Prop :=
  ∃ ds es o' cap', cs = ds ++ es ∧ g = es.length ∧ OwnB w0.heap.size wr cv ds.flatten ∧ Dec wr db b o' cap' (encAll es ++ rest) ∧ (encAll es ++ rest).length ≤ 1099511627000 ∧ Frm w0.heap.size db w0 wr

set_option maxHeartbeats 800000 in
theorem content_chunks {db b o cap : Nat} {cs : List (List Int)} {rest : List Int} {w : World} (h : Dec w db b o cap (encAll cs ++ rest)) (hne : ∀ c ∈ cs, 0 < c.length) (hsum : cs.flatten.length ≤ 1048576) (hn : (encAll cs ++ rest).length ≤ 1099511627000) (hb : b < w.heap.size) :
    Calls Try.prog 29 #[.pointer (some ⟨db, 0, none⟩), .bool false] w fun e w' => CtPost db b cs.flatten rest w e w' := by
  have hl0 : 0 < (encAll cs ++ rest).length := by rw [List.length_append]; have := encAll_pos cs; omega
  have hdb := h.row.lt
  have c0 := h.row.cell (i := 0) (by decide)
  have hst : CtRel cs rest w db b cs.length (.slice none 0 0) w := ⟨[], cs, o, cap, rfl, rfl, OwnB.start _ _, h, hn, Frm.refl _ _ _⟩
  have Hst := hide hst
  have hnb : (((encAll cs ++ rest).length : Int) == 0) = false := beq_eq_false_iff_ne.2 (by omega)
  clear hst h
  generalize (encAll cs ++ rest).length = nn at *
  go_enter Try.func29, Try.ntmps29
  go_wp2_with fail
  go_loopg [8, 9, 10] cs.length (fun g cv _ _ wr => CtRel cs rest w db b g cv wr)
  case atStart => exact Hst.out
  case round =>
    clear Hst c0 hnb hl0
    obtain ⟨ds, es, o', cap', hcs, hg, hO, hD, hn', hF⟩ := hrel
    have Hg := hide hg
    have Hcs := hide hcs
    clear hg hcs
    obtain ⟨xs, Hxs, hO⟩ := hO.gen
    obtain ⟨ca, cc, rfl, hnil, hcl, _⟩ := hO.form
    cases es with
    | nil =>
      have hcd : xs = cs.flatten := by rw [Hcs.out, List.append_nil]; exact Hxs.out
      have Hcd := hide hcd
      clear hcd
      rw [encAll_nil] at hD
      rw [encAll_nil] at hn'
      have HV := hide (vector_dec (.inl rfl) (by decide) hD (by rw [List.length_append] at hn'; omega))
      clear hD hn'
      go_wp2_with fail
      refine HV.out.mono ?_
      rintro e w1 ⟨o1, o2, cap2, rfl, hl1, hD1, hS1⟩
      clear HV
      have hO1 := hO.frame (w' := w1) fun k hk => hS1.block k (by have := (hO.own.lt k hk).1; omega)
      have hF1 := hF.same hS1
      clear hO hF hS1
      have hz0 : ([] : List Int).length = 0 := rfl
      go_wp2_with fail
      go_ret2
      exact ⟨_, o2, cap2, rfl, Hcd.out ▸ hO1, hD1, hF1⟩
    | cons c es =>
      have hcp : 0 < c.length := hne c (by rw [Hcs.out]; simp)
      have hfl := flatten_le Hcs.out
      rw [← Hxs.out] at hfl
      rw [encAll_cons] at hD
      rw [encAll_cons] at hn'
      have hn2 : (c ++ (encAll es ++ rest)).length ≤ 1099511627000 := by rw [List.length_append] at hn'; omega
      have HV := hide (vector_dec (isW_minw c.length) (minw_ok (by omega)) hD hn2)
      clear hD hn'
      go_wp2_with fail
      refine HV.out.mono ?_
      rintro e w1 ⟨o1, o2, cap2, rfl, hl1, hD1, hS1⟩
      clear HV
      have hO1 := hO.frame (w' := w1) fun k hk => hS1.block k (by have := (hO.own.lt k hk).1; omega)
      have hF1 := hF.same hS1
      have hws : w.heap.size ≤ w1.heap.size := hF1.size
      clear hO hF hS1
      have hcb : ((c.length : Int) == 0) = false := beq_eq_false_iff_ne.2 (by omega)
      have Hcs2 : Hid (cs = (ds ++ [c]) ++ es) := by rw [List.append_assoc]; exact Hcs.out
      have Hn3 : Hid ((encAll es ++ rest).length ≤ 1099511627000) := by rw [List.length_append] at hn2; exact Nat.le_trans (Nat.le_add_left _ _) hn2
      clear hn2
      go_wp2_with (at_builtin; go_loud (refine wpList_app8 rfl _ _ rfl rfl hO1 rfl hl1 hcp (by omega) hws ?_))
      intro g cap3 w2 hO2 hgrow hat hlt
      have hb2 := below_app hO1 hws hgrow
      have hD2 := hD1.on (hb2.block db hdb) (hb2.block b hb)
      have hF2 := hF1.below hb2
      rw [Hxs.out, ← flatten_snoc, ← Hxs.out] at hO2
      clear hO1 hF1 hD1 hl1 hgrow hat hlt hb2
      go_wp2_with fail
      go_roundg es.length
      case measure => rw [Hg.out]; simp
      case rel => exact ⟨ds ++ [c], es, o2, cap2, Hcs2.out, rfl, hO2, hD2, Hn3.out, hF2⟩
end Go.Proofs.Qxb6600403a

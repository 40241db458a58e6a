import Derived.Test.Qxb6600345aP
namespace Go.Proofs.Qxb6600345a
open Go.RowKit
set_option linter.unusedVariables false
set_option linter.unusedSimpArgs false

/-- what is known of the arguments -/
structure Ins (w : World) (ca da : Option Addr) (m cc dn dc : Nat) (A : Nat → Option Addr) (L C : Nat → Nat) (Z : Nat → Nat → Int) (dz : Nat → Int) : Prop where
  R : SlR (fun b => b < w.heap.size) w ca m A L C Z
  I : SlI (fun b => b < w.heap.size) w da dn dz
  m1 : m ≤ maxLen
  L1 : ∀ i, L i ≤ maxLen
  d1 : dn ≤ maxLen
  cn : ca = none → m = 0 ∧ cc = 0
  dnil : da = none → dn = 0 ∧ dc = 0
  an : ∀ i, i < m → A i = none → L i = 0 ∧ C i = 0
  zb : ∀ i k, -2147483648 ≤ Z i k ∧ Z i k ≤ 2147483647
  db : ∀ k, -2147483648 ≤ dz k ∧ dz k ≤ 2147483647

def LawPost (w : World) (e : Ending) (w' : World) : Prop := e = .returned (.bool true) ∧ Below w.heap.size w w'


theorem Rep.same {n m B sb mb : Nat} {len : Nat → Nat} {x : Option Nat} {T : Nat → Nat} {w w' : World} {σ : St} (h : Rep n m len B x T w sb σ) (hs : SameBut mb w w') (h0 : T mb = 0) : Rep n m len B x T w' sb σ := by
  obtain ⟨L, hL⟩ := h
  exact ⟨L, hL.frame (by rw [hs.size]; exact Nat.le_refl _) fun b _ hb => hs.block b (by rintro rfl; exact hb h0)⟩
theorem Grew.same {T T' : Nat → Nat} {w w' w'' : World} {mb : Nat} (h : Grew T T' w w') (hs : SameBut mb w' w'') (hmb : w.heap.size ≤ mb) : Grew T T' w w'' :=
  ⟨hs.os.trans h.os, hs.tape.trans h.tape, hs.output.trans h.output, by rw [hs.size]; exact h.size, fun b hb h0 => ⟨(hs.block b (by omega)).trans (h.block b hb h0).1, (h.block b hb h0).2⟩⟩
theorem Grew.row {T T' : Nat → Nat} {w w' : World} {mb t n : Nat} {f : Nat → Value} (hG : Grew T T' w w') (hr : w.rowIs mb t n f) (h0 : T mb = 0) : w'.rowIs mb t n f ∧ T' mb = 0 :=
  ⟨hr.of_block (hG.block mb hr.lt h0).1, (hG.block mb hr.lt h0).2⟩
theorem Rep.alloc {n m B sb : Nat} {len : Nat → Nat} {x : Option Nat} {T : Nat → Nat} {w : World} {σ : St} (h : Rep n m len B x T w sb σ) (o : Obj) : Rep n m len B x T (w.alloc o) sb σ := by
  obtain ⟨L, hL⟩ := h
  exact ⟨L, hL.alloc o⟩
theorem Rep.tnew {n m B sb : Nat} {len : Nat → Nat} {x : Option Nat} {T : Nat → Nat} {w : World} {σ : St} (h : Rep n m len B x T w sb σ) : T w.heap.size = 0 := by
  obtain ⟨L, hL⟩ := h
  exact Classical.byContradiction fun h0 => by have := (hL.tz _ h0).2; omega

theorem info31 : (Try.prog.info? 31).map (fun i => (i.zero, i.size, i.bytes)) = some (some (.int .i8 0), 1, 1) := by kernel_rfl

theorem val_even (σ : St) (v : Nat) : σ.val (2 * (v : Int)) = σ.av v := by
  have h : vr (2 * (v : Int)) = v := by unfold vr; omega
  unfold St.val lx
  rw [h, if_pos (.inr (by omega))]

/-- 'newLevel', said as the other steps -/
theorem zzLevel {n m B sb : Nat} {len : Nat → Nat} {x : Option Nat} {T : Nat → Nat} {w : World} {σ : St} (h : Rep n m len B x T w sb σ) (htr : σ.tr.length ≤ 4096) (htl : σ.tl.length ≤ 4096) (hB : B ≤ w.heap.size) :
    Calls Try.prog 18 #[.pointer (some ⟨sb, 0, none⟩)] w fun e w' => AsPost n m len B x T w sb σ.level e w' := newLevel_rep h htr htl hB

end Go.Proofs.Qxb6600345a

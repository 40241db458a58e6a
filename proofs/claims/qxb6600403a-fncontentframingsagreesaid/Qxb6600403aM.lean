import Derived.Test.Qxb6600403aK
namespace Go.Proofs.Qxb6600403a
open Go.RowKit
set_option linter.unusedVariables false
set_option linter.unusedSimpArgs false

theorem run_app_nil (w : World) (ty : TypeId) (b n cap c : Nat) (hroom : n ≤ cap) : (Builtin.append_ #[23, 23] ty #[.slice (some ⟨b, 0, none⟩) n cap, .slice none 0 c]).run Try.prog w = .ok (.slice (some ⟨b, 0, none⟩) n cap) w := by
  obtain ⟨i0, hi0, hz0, hz1, hz2⟩ := info_parts info5
  simp [Builtin.append_, run_underlying Try.underlying23, sizeOf, typeInfo, hi0, Builtin.lenOf, hroom, run_firstCells_none, storeCells]

theorem run_app_zero (w : World) (ty : TypeId) (b n cap c : Nat) (ao : Option Addr) (hroom : n ≤ cap) : (Builtin.append_ #[23, 23] ty #[.slice (some ⟨b, 0, none⟩) n cap, .slice ao 0 c]).run Try.prog w = .ok (.slice (some ⟨b, 0, none⟩) n cap) w := by
  cases ao with
  | none => exact run_app_nil w ty b n cap c hroom
  | some ad =>
    obtain ⟨i0, hi0, hz0, hz1, hz2⟩ := info_parts info5
    have := run_append_room_cells (P := Try.prog) w 23 ty 5 i0 Try.underlying23 hi0 b 0 n cap ad 0 c [] (by simp) (by simp) (by simp) (by omega) (by simp) (by simp)
    simpa [World.setCells] using this

theorem wpList_app0 {w : World} {ops : Array Oper} {rest : List Oper} {o : Oper} {a : Act} {Q : Exit → Act → World → Prop} (hgd : o.guard = none) (s x : Operand)
    (ho : o.op = .call { callee := .builtin .append, args := #[s, x], argTypes := #[23, 23] }) {b n cap c : Nat} {ao : Option Addr} (hs : a.eval s = .slice (some ⟨b, 0, none⟩) n cap) (hx : a.eval x = .slice ao 0 c) (hroom : n ≤ cap)
    (h : wpList Try.prog ops Q rest (a.put o.dst (.slice (some ⟨b, 0, none⟩) n cap)) w) : wpList Try.prog ops Q (o :: rest) a w := by
  refine wpList_plain hgd fun K hK' => ?_
  have hrun := run_app_zero w o.type b n cap c ao hroom
  unfold Oper.wp
  simp [execOp, ho, resolve, invoke, builtin, hs, hx, hrun, Result.andThen]
  exact hK' _ _ h

/-- the chunks that are not empty, of the first k -/
def pre (Z : Nat → List Int) : Nat → List (List Int)
  | 0 => []
  | k + 1 => if (Z k).length = 0 then pre Z k else pre Z k ++ [Z k]
/-- how many bytes the first k chunks hold -/
def tot (Z : Nat → List Int) : Nat → Nat
  | 0 => 0
  | k + 1 => tot Z k + (Z k).length
/-- chunks, each behind its length -/
def encPre : List (List Int) → List Int
  | [] => []
  | c :: cs => enc c.length (minw c.length) ++ (c ++ encPre cs)

theorem encPre_snoc : ∀ (cs : List (List Int)) (c : List Int), encPre (cs ++ [c]) = encPre cs ++ enc c.length (minw c.length) ++ c
  | [], c => by simp [encPre]
  | d :: cs, c => by rw [List.cons_append, encPre, encPre_snoc cs c, encPre]; simp [List.append_assoc]
theorem encAll_pre : ∀ cs : List (List Int), encAll cs = encPre cs ++ [0]
  | [] => rfl
  | c :: cs => by rw [encAll, encAll_pre cs, encPre]; simp [List.append_assoc]
theorem pre_pos (Z : Nat → List Int) : ∀ k, ∀ c ∈ pre Z k, 0 < c.length
  | 0 => fun c hc => by cases hc
  | k + 1 => fun c hc => by
    unfold pre at hc
    split at hc
    · exact pre_pos Z k c hc
    · rcases List.mem_append.1 hc with h | h
      · exact pre_pos Z k c h
      · rw [List.mem_singleton.1 h]; omega
theorem pre_len (Z : Nat → List Int) : ∀ k, (pre Z k).flatten.length = tot Z k
  | 0 => rfl
  | k + 1 => by
    unfold pre tot
    split
    · rename_i h; rw [pre_len Z k]; omega
    · rw [flatten_snoc, List.length_append, pre_len Z k]
theorem encPre_len (Z : Nat → List Int) : ∀ k, (encPre (pre Z k)).length ≤ tot Z k + 8 * k
  | 0 => by simp [pre, encPre]
  | k + 1 => by
    have h1 := encPre_len Z k
    unfold pre tot
    split
    · omega
    · have := minw_pos (Z k).length
      rw [encPre_snoc, List.length_append, List.length_append, enc_length]
      omega
theorem tot_mono (Z : Nat → List Int) {k m : Nat} (h : k ≤ m) : tot Z k ≤ tot Z m := by
  induction m with
  | zero => have : k = 0 := by omega
            subst this; exact Nat.le_refl _
  | succ m ih =>
    by_cases hk : k ≤ m
    · exact Nat.le_trans (ih hk) (Nat.le_add_right _ _)
    · have : k = m + 1 := by omega
      subst this; exact Nat.le_refl _

end Go.Proofs.Qxb6600403a

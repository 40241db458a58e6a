import Derived.Test.Qxb6600345aM
import Derived.ArgAppend
/-! Rows of one's own that are written in place: 'kept := ws[:0]; kept = append(kept, x)'. -/
namespace Go.Proofs.Qxb6600345a
open Go.RowKit
set_option linter.unusedVariables false
set_option linter.unusedSimpArgs false

theorem rowIs_of_own {w : World} {gb cap len : Nat} {e : TypeId} {cur : Array Value} {xs : List Value} (hh : w.heap[gb]? = some (.cells cur e (0, 0))) (hcs : cur.size = cap * 1) (ht : cur.toList.take (len * 1) = xs) (hl : len ≤ cap) :
    w.rowIs gb e cap (fun j => cur.getD j undef) ∧ ∀ j, j < len → some (cur.getD j undef) = xs[j]? := by
  refine ⟨⟨cur, hh, by omega, fun i hi => ?_⟩, fun j hj => ?_⟩
  · have : i < cur.size := by omega
    simp [this]
  · have : j < cur.size := by omega
    rw [← ht, List.getElem?_take, if_pos (by omega)]
    simp [this]

theorem own_of_rowIs {w : World} {B gb cap len : Nat} {e : TypeId} {f : Nat → Value} {xs : List Value} (h : w.rowIs gb e cap f) (hx : xs.length = len) (hl : len ≤ cap) (hc : cap ≤ maxLen) (hB : B ≤ gb) (hf : ∀ j, j < len → xs[j]? = some (f j)) :
    w.ownsRow B e 1 (.slice (some ⟨gb, 0, none⟩) len cap) len xs := by
  obtain ⟨c, hb, hn, hcc⟩ := h
  refine ⟨by omega, .inr ⟨gb, cap, c, rfl, hB, hb, hl, hc, by omega, ?_⟩⟩
  apply List.ext_getElem?
  intro j
  rw [List.getElem?_take]
  by_cases hj : j < len
  · rw [if_pos (by omega), hf j hj]
    have := hcc j (by omega)
    simpa using this
  · rw [if_neg (by omega), List.getElem?_eq_none (by omega)]

theorem rowIs_setCells {e : TypeId} : ∀ (vs : List Value) (o : Nat) {w : World} {b n : Nat} {f : Nat → Value}, w.rowIs b e n f →
    (w.setCells b o vs).rowIs b e n (fun j => if o ≤ j ∧ j < o + vs.length then vs.getD (j - o) undef else f j)
  | [], o, w, b, n, f, h => by
    refine World.rowIs.congr (f := f) h fun i _ => ?_
    rw [if_neg]
    simp
  | v :: vs, o, w, b, n, f, h => by
    refine World.rowIs.congr (rowIs_setCells vs (o + 1) (h.set o v)) fun j _ => ?_
    simp only [List.length_cons]
    by_cases h1 : j = o
    · subst h1
      rw [if_neg (by omega), if_pos rfl, if_pos (by omega)]
      simp
    · by_cases h2 : o + 1 ≤ j ∧ j < o + 1 + vs.length
      · rw [if_pos h2, if_pos (by omega)]
        have : j - o = (j - (o + 1)) + 1 := by omega
        rw [this, List.getD_cons_succ]
      · rw [if_neg h2, if_neg h1, if_neg (by omega)]

theorem heap_setCells_ne (b : Nat) : ∀ (vs : List Value) (o : Nat) (w : World) (k : Nat), k ≠ b → (w.setCells b o vs).heap[k]? = w.heap[k]?
  | [], _, _, _, _ => rfl
  | v :: vs, o, w, k, h => by
    rw [World.setCells, heap_setCells_ne b vs (o + 1) _ k h]
    exact Below.heap_setCell _ _ _ _ h
theorem size_setCells' (b : Nat) : ∀ (vs : List Value) (o : Nat) (w : World), (w.setCells b o vs).heap.size = w.heap.size
  | [], _, _ => rfl
  | v :: vs, o, w => by
    rw [World.setCells, size_setCells' b vs (o + 1) _]
    simp [World.setCell]
theorem rest_setCells (b : Nat) : ∀ (vs : List Value) (o : Nat) (w : World), (w.setCells b o vs).os = w.os ∧ (w.setCells b o vs).tape = w.tape ∧ (w.setCells b o vs).output = w.output
  | [], _, _ => ⟨rfl, rfl, rfl⟩
  | v :: vs, o, w => by
    rw [World.setCells]
    exact rest_setCells b vs (o + 1) _

/-- a store into a block that is the solver's, or was not there -/
theorem Grew.set {T T' : Nat → Nat} {w w' : World} (h : Grew T T' w w') {b : Nat} (hb : w.heap.size ≤ b ∨ T b ≠ 0) (o : Nat) (vs : List Value) : Grew T T' w (w'.setCells b o vs) := by
  obtain ⟨r1, r2, r3⟩ := rest_setCells b vs o w'
  refine ⟨r1.trans h.os, r2.trans h.tape, r3.trans h.output, by rw [size_setCells']; exact h.size, fun k hk h0 => ?_⟩
  obtain ⟨h1, h2⟩ := h.block k hk h0
  refine ⟨?_, h2⟩
  rw [heap_setCells_ne]
  · exact h1
  · rintro rfl
    rcases hb with hb | hb
    · omega
    · exact hb h0

theorem Grew.untag {T T' T'' : Nat → Nat} {w w' : World} (h : Grew T T' w w') (ht : ∀ b, T' b = 0 → T'' b = 0) : Grew T T'' w w' :=
  ⟨h.os, h.tape, h.output, h.size, fun b hb h0 => ⟨(h.block b hb h0).1, ht b (h.block b hb h0).2⟩⟩

theorem Grew.retag {T T' : Nat → Nat} {w w' : World} (h : Grew T T' w w') {t g : Nat} (hb : w.heap.size ≤ g ∨ T g ≠ 0) : Grew T (retag T' t g) w w' :=
  ⟨h.os, h.tape, h.output, h.size, fun b hbs h0 => ⟨(h.block b hbs h0).1, retag_zero (by rintro rfl; rcases hb with hb | hb <;> first | omega | exact hb h0) (h.block b hbs h0).2⟩⟩

/-- 'append' where there is room, in place -/
theorem wpList_append_room {P : Program} (w : World) {ops : Array Oper} {rest : List Oper} {o : Oper} {a : Act} {Q : Exit → Act → World → Prop}
    (hg : o.guard = none) (s x : Operand) (t : TypeId) (hop : o.op = Op.call { callee := Callee.builtin Builtin.append, args := #[s, x], argTypes := #[t, t] })
    (e : TypeId) (i : TypeInfo) (h1 : P.underlying t = some (.slice e)) (h2 : P.info? e = some i) (h4 : i.size = 1)
    (b n cap : Nat) (hs : a.eval s = .slice (some ⟨b, 0, none⟩) n cap) {f : Nat → Value} (hrow : w.rowIs b e cap f)
    (ad : Addr) (m c : Nat) (news : List Value) (hx : a.eval x = .slice (some ad) m c) (hn : news.length = m) (hc : ∀ j u, news[j]? = some u → w.cell? (ad.add j) = some u) (h1c : ∀ u ∈ news, u.oneCell' = true)
    (hroom : n + m ≤ cap)
    (hK : wpList P ops Q rest (a.put o.dst (.slice (some ⟨b, 0, none⟩) (n + m) cap)) (w.setCells b n news)) : wpList P ops Q (o :: rest) a w := by
  refine wpList_plain hg fun K hK' => ?_
  have hrun := run_append_room_cells (P := P) w t o.type e i h1 h2 b 0 n cap ad m c news (by rw [h4]; omega) hc h1c hroom
    (fun j hj => by rw [h4]; simp only [Nat.mul_one, Nat.zero_add]; rw [hrow.cell (i := n + j) (by omega)]; rfl)
    (fun j hj => by rw [h4]; simp only [Nat.mul_one, Nat.zero_add]; exact hrow.frozen _)
  unfold Oper.wp
  rw [h4] at hrun
  simp only [Nat.mul_one, Nat.zero_add] at hrun
  simp [execOp, hop, resolve, invoke, builtin, hs, hx, hrun, Result.andThen]
  exact hK' _ _ hK

/-- the same, what is appended at whatever address: 'append(kept, ws[i:]...)' -/
theorem wpList_append_room_any {P : Program} (w : World) {ops : Array Oper} {rest : List Oper} {o : Oper} {a : Act} {Q : Exit → Act → World → Prop}
    (hg : o.guard = none) (s x : Operand) (t : TypeId) (hop : o.op = Op.call { callee := Callee.builtin Builtin.append, args := #[s, x], argTypes := #[t, t] })
    (e : TypeId) (i : TypeInfo) (h1 : P.underlying t = some (.slice e)) (h2 : P.info? e = some i) (h4 : i.size = 1)
    (b n cap : Nat) (hs : a.eval s = .slice (some ⟨b, 0, none⟩) n cap) {f : Nat → Value} (hrow : w.rowIs b e cap f)
    (ao : Option Addr) (m c : Nat) (news : List Value) (hx : a.eval x = .slice ao m c) (hn : news.length = m) (hsome : ao ≠ none) (hc : ∀ ad, ao = some ad → ∀ j u, news[j]? = some u → w.cell? (ad.add j) = some u) (h1c : ∀ u ∈ news, u.oneCell' = true)
    (hroom : n + m ≤ cap)
    (hK : wpList P ops Q rest (a.put o.dst (.slice (some ⟨b, 0, none⟩) (n + m) cap)) (w.setCells b n news)) : wpList P ops Q (o :: rest) a w := by
  cases ao with
  | none => exact absurd rfl hsome
  | some ad => exact wpList_append_room w hg s x t hop e i h1 h2 h4 b n cap hs hrow ad m c news hx hn (hc ad rfl) h1c hroom hK

end Go.Proofs.Qxb6600345a

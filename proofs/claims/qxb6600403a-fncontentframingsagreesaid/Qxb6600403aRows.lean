/-
  No cell of these rows narrows 'for every input' (looked for: loops, veiled, ifaces, maps, wideKeys, modest, calm, conditions, laid).
  DERIVED. THE GIVEN ROWS OF THIS SEAT. 6 by the template 'for every input the law returns true; each argument reads behind the call as it read before'; 0 by the template 'total and deterministic' (their statements: Qxb6600403aTotals.lean).
  GIVEN WITH THE SEED: the statements are not yours to turn. If you find one false, say at which input.
  Laid BY PROGRAM, IN A SANDBOX (cutbox-rows.mjs): the forced cells as the released guide's own fill.sh prints them over the translation 6a09ccbfd6eae66a… (all of the seat's roots in one cut). By AI agents, Wed Nov 11 2026. No macro, syntax, notation, axiom, sorry.
-/
import Derived.Test.Qxb6600403aChecked
import GoSem.Claim
import GoSem.ClaimJoined
import GoSem.ClaimMapViews
import Derived.JoinedTies
import Derived.KernelRfl
namespace Go.Proofs.Qxb6600403a
/- THE CELL 'sum', in the pinned program and in every row, IS THE sha256 OF THE DUMP (.gsa) THAT Qxb6600403aProg.lean LOADS. Nothing in Lean hashes anything: it is a label: what it is worth is what the hold of that sum in a sandbox is worth. -/
noncomputable def Try.pinned : Pinned := { name := "qxb6600403a", sum := "6a09ccbfd6eae66a5f80006fd9201092da68df238ce28dcc0c89202d1da470ed", checked := Try.checked }
namespace Rows
def none {H : Type} : Left H := { results := [], args := [] }

/-- 'zzlaws_pkg_bhttp_b1.FnVarintRoundTrip': WHATEVER THE INPUT: true; the input reads as it did. -/
def fnVarintRoundTripSpec : ChangeSpec := { name := "fnVarintRoundTrip", fn := fun _ => fun
  | [d1, d2, d3] => { results := [.lit (.bool true)], args := [d1, d2, d3] }
  | _ => none }
def fnVarintRoundTripRow : OpenClaim := { program := "qxb6600403a", sum := "6a09ccbfd6eae66a5f80006fd9201092da68df238ce28dcc0c89202d1da470ed", func := "example.com/veilquery/veilquery/zzlaws_pkg_bhttp_b1.FnVarintRoundTrip", spec := "fnVarintRoundTrip", apart := false }
def FnVarintRoundTripSaid : Prop := fnVarintRoundTripRow.holds Try.pinned (OpenSpec.ofChange fnVarintRoundTripSpec)

/-- ITS FALSE NEIGHBOUR: 'it returns false'. Refute it at one input. -/
def fnVarintRoundTripWrong : ChangeSpec := { name := "fnVarintRoundTrip", fn := fun _ => fun
  | [d1, d2, d3] => { results := [.lit (.bool false)], args := [d1, d2, d3] }
  | _ => none }
def FnVarintRoundTripWrongFalsely : Prop := fnVarintRoundTripRow.holds Try.pinned (OpenSpec.ofChange fnVarintRoundTripWrong)

/-- 'zzlaws_pkg_bhttp_b1.FnVarintSelfDelimiting': WHATEVER THE INPUT: true; the input reads as it did. -/
def fnVarintSelfDelimitingSpec : ChangeSpec := { name := "fnVarintSelfDelimiting", fn := fun _ => fun
  | [d1, d2] => { results := [.lit (.bool true)], args := [d1, d2] }
  | _ => none }
def fnVarintSelfDelimitingRow : OpenClaim := { program := "qxb6600403a", sum := "6a09ccbfd6eae66a5f80006fd9201092da68df238ce28dcc0c89202d1da470ed", func := "example.com/veilquery/veilquery/zzlaws_pkg_bhttp_b1.FnVarintSelfDelimiting", spec := "fnVarintSelfDelimiting", apart := false }
def FnVarintSelfDelimitingSaid : Prop := fnVarintSelfDelimitingRow.holds Try.pinned (OpenSpec.ofChange fnVarintSelfDelimitingSpec)

/-- ITS FALSE NEIGHBOUR: 'it returns false'. Refute it at one input. -/
def fnVarintSelfDelimitingWrong : ChangeSpec := { name := "fnVarintSelfDelimiting", fn := fun _ => fun
  | [d1, d2] => { results := [.lit (.bool false)], args := [d1, d2] }
  | _ => none }
def FnVarintSelfDelimitingWrongFalsely : Prop := fnVarintSelfDelimitingRow.holds Try.pinned (OpenSpec.ofChange fnVarintSelfDelimitingWrong)

/-- 'zzlaws_pkg_bhttp_b1.FnVectorRoundTrip': WHATEVER THE INPUT: true; the input reads as it did. -/
def fnVectorRoundTripSpec : ChangeSpec := { name := "fnVectorRoundTrip", fn := fun _ => fun
  | [d1, d2, d3] => { results := [.lit (.bool true)], args := [d1, d2, d3] }
  | _ => none }
def fnVectorRoundTripRow : OpenClaim := { program := "qxb6600403a", sum := "6a09ccbfd6eae66a5f80006fd9201092da68df238ce28dcc0c89202d1da470ed", func := "example.com/veilquery/veilquery/zzlaws_pkg_bhttp_b1.FnVectorRoundTrip", spec := "fnVectorRoundTrip", apart := false }
def FnVectorRoundTripSaid : Prop := fnVectorRoundTripRow.holds Try.pinned (OpenSpec.ofChange fnVectorRoundTripSpec)

/-- ITS FALSE NEIGHBOUR: 'it returns false'. Refute it at one input. -/
def fnVectorRoundTripWrong : ChangeSpec := { name := "fnVectorRoundTrip", fn := fun _ => fun
  | [d1, d2, d3] => { results := [.lit (.bool false)], args := [d1, d2, d3] }
  | _ => none }
def FnVectorRoundTripWrongFalsely : Prop := fnVectorRoundTripRow.holds Try.pinned (OpenSpec.ofChange fnVectorRoundTripWrong)

/-- 'zzlaws_pkg_bhttp_b1.FnVectorAppendKeepsRest': WHATEVER THE INPUT: true; the input reads as it did. -/
def fnVectorAppendKeepsRestSpec : ChangeSpec := { name := "fnVectorAppendKeepsRest", fn := fun _ => fun
  | [d1, d2] => { results := [.lit (.bool true)], args := [d1, d2] }
  | _ => none }
def fnVectorAppendKeepsRestRow : OpenClaim := { program := "qxb6600403a", sum := "6a09ccbfd6eae66a5f80006fd9201092da68df238ce28dcc0c89202d1da470ed", func := "example.com/veilquery/veilquery/zzlaws_pkg_bhttp_b1.FnVectorAppendKeepsRest", spec := "fnVectorAppendKeepsRest", apart := false }
def FnVectorAppendKeepsRestSaid : Prop := fnVectorAppendKeepsRestRow.holds Try.pinned (OpenSpec.ofChange fnVectorAppendKeepsRestSpec)

/-- ITS FALSE NEIGHBOUR: 'it returns false'. Refute it at one input. -/
def fnVectorAppendKeepsRestWrong : ChangeSpec := { name := "fnVectorAppendKeepsRest", fn := fun _ => fun
  | [d1, d2] => { results := [.lit (.bool false)], args := [d1, d2] }
  | _ => none }
def FnVectorAppendKeepsRestWrongFalsely : Prop := fnVectorAppendKeepsRestRow.holds Try.pinned (OpenSpec.ofChange fnVectorAppendKeepsRestWrong)

/-- 'zzlaws_pkg_bhttp_b1.FnContentChunkedRoundTrip': WHATEVER THE INPUT: true; the input reads as it did. -/
def fnContentChunkedRoundTripSpec : ChangeSpec := { name := "fnContentChunkedRoundTrip", fn := fun _ => fun
  | [d1, d2] => { results := [.lit (.bool true)], args := [d1, d2] }
  | _ => none }
def fnContentChunkedRoundTripRow : OpenClaim := { program := "qxb6600403a", sum := "6a09ccbfd6eae66a5f80006fd9201092da68df238ce28dcc0c89202d1da470ed", func := "example.com/veilquery/veilquery/zzlaws_pkg_bhttp_b1.FnContentChunkedRoundTrip", spec := "fnContentChunkedRoundTrip", apart := false }
def FnContentChunkedRoundTripSaid : Prop := fnContentChunkedRoundTripRow.holds Try.pinned (OpenSpec.ofChange fnContentChunkedRoundTripSpec)

/-- ITS FALSE NEIGHBOUR: 'it returns false'. Refute it at one input. -/
def fnContentChunkedRoundTripWrong : ChangeSpec := { name := "fnContentChunkedRoundTrip", fn := fun _ => fun
  | [d1, d2] => { results := [.lit (.bool false)], args := [d1, d2] }
  | _ => none }
def FnContentChunkedRoundTripWrongFalsely : Prop := fnContentChunkedRoundTripRow.holds Try.pinned (OpenSpec.ofChange fnContentChunkedRoundTripWrong)

/-- 'zzlaws_pkg_bhttp_b1.FnContentFramingsAgree': WHATEVER THE INPUT: true; the input reads as it did. -/
def fnContentFramingsAgreeSpec : ChangeSpec := { name := "fnContentFramingsAgree", fn := fun _ => fun
  | [d1, d2] => { results := [.lit (.bool true)], args := [d1, d2] }
  | _ => none }
def fnContentFramingsAgreeRow : OpenClaim := { program := "qxb6600403a", sum := "6a09ccbfd6eae66a5f80006fd9201092da68df238ce28dcc0c89202d1da470ed", func := "example.com/veilquery/veilquery/zzlaws_pkg_bhttp_b1.FnContentFramingsAgree", spec := "fnContentFramingsAgree", apart := false }
def FnContentFramingsAgreeSaid : Prop := fnContentFramingsAgreeRow.holds Try.pinned (OpenSpec.ofChange fnContentFramingsAgreeSpec)

/-- ITS FALSE NEIGHBOUR: 'it returns false'. Refute it at one input. -/
def fnContentFramingsAgreeWrong : ChangeSpec := { name := "fnContentFramingsAgree", fn := fun _ => fun
  | [d1, d2] => { results := [.lit (.bool false)], args := [d1, d2] }
  | _ => none }
def FnContentFramingsAgreeWrongFalsely : Prop := fnContentFramingsAgreeRow.holds Try.pinned (OpenSpec.ofChange fnContentFramingsAgreeWrong)

end Rows
end Go.Proofs.Qxb6600403a

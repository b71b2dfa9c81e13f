/-
  No cell of these rows narrows 'for every input' (looked for: loops, veiled, ifaces, maps, wideKeys, modest, calm, conditions, laid).
  DERIVED. THE GIVEN ROWS OF THIS SEAT. 4 by the template 'for every input the law returns true; each argument reads behind the call as it read before'; 0 by the template 'total and deterministic' (their statements: Qxb6606025aTotals.lean).
  GIVEN WITH THE SEED: the statements are not yours to turn. If you find one false, say at which input.
  Laid BY PROGRAM, IN A SANDBOX (cutbox-rows.mjs): the forced cells as the released guide's own fill.sh prints them over the translation d3ae06ec772dded9… (all of the seat's roots in one cut). By AI agents, Wed Nov 11 2026. No macro, syntax, notation, axiom, sorry.
-/
import Derived.Test.Qxb6606025aChecked
import GoSem.Claim
import GoSem.ClaimJoined
import GoSem.ClaimMapViews
import Derived.JoinedTies
import Derived.KernelRfl
namespace Go.Proofs.Qxb6606025a
/- THE CELL 'sum', in the pinned program and in every row, IS THE sha256 OF THE DUMP (.gsa) THAT Qxb6606025aProg.lean LOADS. Nothing in Lean hashes anything: it is a label: what it is worth is what the hold of that sum in a sandbox is worth. -/
noncomputable def Try.pinned : Pinned := { name := "qxb6606025a", sum := "d3ae06ec772dded99cbe749a984a03bd1426bef362d4d9512619ababb7d368df", checked := Try.checked }
namespace Rows
def none {H : Type} : Left H := { results := [], args := [] }

/-- 'zzlaws_internal_wide_b1.FnOfInt64RoundTrip': WHATEVER THE INPUT: true; the input reads as it did. -/
def fnOfInt64RoundTripSpec : ChangeSpec := { name := "fnOfInt64RoundTrip", fn := fun _ => fun
  | [d] => { results := [.lit (.bool true)], args := [d] }
  | _ => none }
def fnOfInt64RoundTripRow : OpenClaim := { program := "qxb6606025a", sum := "d3ae06ec772dded99cbe749a984a03bd1426bef362d4d9512619ababb7d368df", func := "example.com/gaugewell/gaugewell/zzlaws_internal_wide_b1.FnOfInt64RoundTrip", spec := "fnOfInt64RoundTrip", apart := false }
def FnOfInt64RoundTripSaid : Prop := fnOfInt64RoundTripRow.holds Try.pinned (OpenSpec.ofChange fnOfInt64RoundTripSpec)

/-- ITS FALSE NEIGHBOUR: 'it returns false'. Refute it at one input. -/
def fnOfInt64RoundTripWrong : ChangeSpec := { name := "fnOfInt64RoundTrip", fn := fun _ => fun
  | [d] => { results := [.lit (.bool false)], args := [d] }
  | _ => none }
def FnOfInt64RoundTripWrongFalsely : Prop := fnOfInt64RoundTripRow.holds Try.pinned (OpenSpec.ofChange fnOfInt64RoundTripWrong)

/-- 'zzlaws_internal_wide_b1.FnOfThenAddIsExactTwoTermSum': WHATEVER THE INPUT: true; the input reads as it did. -/
def fnOfThenAddIsExactTwoTermSumSpec : ChangeSpec := { name := "fnOfThenAddIsExactTwoTermSum", fn := fun _ => fun
  | [d1, d2] => { results := [.lit (.bool true)], args := [d1, d2] }
  | _ => none }
def fnOfThenAddIsExactTwoTermSumRow : OpenClaim := { program := "qxb6606025a", sum := "d3ae06ec772dded99cbe749a984a03bd1426bef362d4d9512619ababb7d368df", func := "example.com/gaugewell/gaugewell/zzlaws_internal_wide_b1.FnOfThenAddIsExactTwoTermSum", spec := "fnOfThenAddIsExactTwoTermSum", inPlace := ["math/bits.Add64"], apart := false }
def FnOfThenAddIsExactTwoTermSumSaid : Prop := fnOfThenAddIsExactTwoTermSumRow.holds Try.pinned (OpenSpec.ofChange fnOfThenAddIsExactTwoTermSumSpec)

/-- ITS FALSE NEIGHBOUR: 'it returns false'. Refute it at one input. -/
def fnOfThenAddIsExactTwoTermSumWrong : ChangeSpec := { name := "fnOfThenAddIsExactTwoTermSum", fn := fun _ => fun
  | [d1, d2] => { results := [.lit (.bool false)], args := [d1, d2] }
  | _ => none }
def FnOfThenAddIsExactTwoTermSumWrongFalsely : Prop := fnOfThenAddIsExactTwoTermSumRow.holds Try.pinned (OpenSpec.ofChange fnOfThenAddIsExactTwoTermSumWrong)

/-- 'zzlaws_internal_wide_b1.FnAddMatchesLimbModel': WHATEVER THE INPUT: true; the input reads as it did. -/
def fnAddMatchesLimbModelSpec : ChangeSpec := { name := "fnAddMatchesLimbModel", fn := fun _ => fun
  | [d1, d2, d3] => { results := [.lit (.bool true)], args := [d1, d2, d3] }
  | _ => none }
def fnAddMatchesLimbModelRow : OpenClaim := { program := "qxb6606025a", sum := "d3ae06ec772dded99cbe749a984a03bd1426bef362d4d9512619ababb7d368df", func := "example.com/gaugewell/gaugewell/zzlaws_internal_wide_b1.FnAddMatchesLimbModel", spec := "fnAddMatchesLimbModel", inPlace := ["math/bits.Add64"], apart := false }
def FnAddMatchesLimbModelSaid : Prop := fnAddMatchesLimbModelRow.holds Try.pinned (OpenSpec.ofChange fnAddMatchesLimbModelSpec)

/-- ITS FALSE NEIGHBOUR: 'it returns false'. Refute it at one input. -/
def fnAddMatchesLimbModelWrong : ChangeSpec := { name := "fnAddMatchesLimbModel", fn := fun _ => fun
  | [d1, d2, d3] => { results := [.lit (.bool false)], args := [d1, d2, d3] }
  | _ => none }
def FnAddMatchesLimbModelWrongFalsely : Prop := fnAddMatchesLimbModelRow.holds Try.pinned (OpenSpec.ofChange fnAddMatchesLimbModelWrong)

/-- 'zzlaws_internal_wide_b1.FnAddScriptIsExactAndOrderFree': WHATEVER THE INPUT: true; the input reads as it did. -/
def fnAddScriptIsExactAndOrderFreeSpec : ChangeSpec := { name := "fnAddScriptIsExactAndOrderFree", fn := fun _ => fun
  | [d] => { results := [.lit (.bool true)], args := [d] }
  | _ => none }
def fnAddScriptIsExactAndOrderFreeRow : OpenClaim := { program := "qxb6606025a", sum := "d3ae06ec772dded99cbe749a984a03bd1426bef362d4d9512619ababb7d368df", func := "example.com/gaugewell/gaugewell/zzlaws_internal_wide_b1.FnAddScriptIsExactAndOrderFree", spec := "fnAddScriptIsExactAndOrderFree", inPlace := ["math/bits.Add64"], apart := false }
def FnAddScriptIsExactAndOrderFreeSaid : Prop := fnAddScriptIsExactAndOrderFreeRow.holds Try.pinned (OpenSpec.ofChange fnAddScriptIsExactAndOrderFreeSpec)

/-- ITS FALSE NEIGHBOUR: 'it returns false'. Refute it at one input. -/
def fnAddScriptIsExactAndOrderFreeWrong : ChangeSpec := { name := "fnAddScriptIsExactAndOrderFree", fn := fun _ => fun
  | [d] => { results := [.lit (.bool false)], args := [d] }
  | _ => none }
def FnAddScriptIsExactAndOrderFreeWrongFalsely : Prop := fnAddScriptIsExactAndOrderFreeRow.holds Try.pinned (OpenSpec.ofChange fnAddScriptIsExactAndOrderFreeWrong)

end Rows
end Go.Proofs.Qxb6606025a

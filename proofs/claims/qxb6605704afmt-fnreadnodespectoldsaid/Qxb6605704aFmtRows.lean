/-
  No cell of these rows narrows 'for every input' (looked for: loops, veiled, ifaces, maps, wideKeys, modest, calm, conditions, laid).
  DERIVED. THE GIVEN ROWS OF THIS SEAT. 6 by the template 'for every input the law returns true; each argument reads behind the call as it read before'; 0 by the template 'total and deterministic' (their statements: Qxb6605704aFmtTotals.lean).
  GIVEN WITH THE SEED: the statements are not yours to turn. If you find one false, say at which input.
  Laid BY PROGRAM, IN A SANDBOX (cutbox-rows.mjs): the forced cells as the released guide's own fill.sh prints them over the translation 1f4288e7f05f8557… (all of the seat's roots in one cut). By AI agents, Wed Nov 11 2026. No macro, syntax, notation, axiom, sorry.
-/
import Derived.Test.Qxb6605704aFmtChecked
import GoSem.Claim
import GoSem.ClaimJoined
import GoSem.ClaimMapViews
import Derived.JoinedTies
import Derived.KernelRfl
namespace Go.Proofs.Qxb6605704aFmt
/- THE CELL 'sum', in the pinned program and in every row, IS THE sha256 OF THE DUMP (.gsa) THAT Qxb6605704aFmtProg.lean LOADS. Nothing in Lean hashes anything: it is a label: what it is worth is what the hold of that sum in a sandbox is worth. -/
noncomputable def Tryf.pinned : Pinned := { name := "qxb6605704afmt", sum := "1f4288e7f05f855717386434e79cfd2a3d8d32500c1232d1e39f5b6d3468d50e", checked := Tryf.checked }
namespace Rows
def none {H : Type} : Left H := { results := [], args := [] }

/-- 'zzlaws_internal_overlay_b1.FnReadNodeSpec': WHATEVER THE INPUT: true; the input reads as it did. -/
def fnReadNodeSpecSpec : ChangeSpec := { name := "fnReadNodeSpec", fn := fun _ => fun
  | [d] => { results := [.lit (.bool true)], args := [d] }
  | _ => none }
def fnReadNodeSpecRow : OpenClaim := { program := "qxb6605704afmt", sum := "1f4288e7f05f855717386434e79cfd2a3d8d32500c1232d1e39f5b6d3468d50e", func := "example.com/xorfield/xorfield/zzlaws_internal_overlay_b1.FnReadNodeSpec", spec := "fnReadNodeSpec", stops := ["fmt.Sprintf, its operands' methods called", "fmt.errorf"], inPlace := ["fmt.Sprintf", "fmt.errorf"], unfollowed := true, recurses := true, named := ["encoding/binary.LittleEndian"], apart := false }
/-- NO THEOREM (fmt's text is open here; it may be false): for the released tool's asking of the row's closed facts alone. THE STATEMENT IS 'FnReadNodeSpecToldSaid' (Qxb6605704aFmtCards.lean). -/
def FnReadNodeSpecFormAsk : Prop := fnReadNodeSpecRow.holds Tryf.pinned (OpenSpec.ofChange fnReadNodeSpecSpec)

/-- ITS FALSE NEIGHBOUR: 'it returns false'. Refute it at one input. -/
def fnReadNodeSpecWrong : ChangeSpec := { name := "fnReadNodeSpec", fn := fun _ => fun
  | [d] => { results := [.lit (.bool false)], args := [d] }
  | _ => none }
def FnReadNodeSpecWrongFormAsk : Prop := fnReadNodeSpecRow.holds Tryf.pinned (OpenSpec.ofChange fnReadNodeSpecWrong)

/-- 'zzlaws_internal_overlay_b1.FnReadNodeRoundTrip': WHATEVER THE INPUT: true; the input reads as it did. -/
def fnReadNodeRoundTripSpec : ChangeSpec := { name := "fnReadNodeRoundTrip", fn := fun _ => fun
  | [d1, d2, d3, d4] => { results := [.lit (.bool true)], args := [d1, d2, d3, d4] }
  | _ => none }
def fnReadNodeRoundTripRow : OpenClaim := { program := "qxb6605704afmt", sum := "1f4288e7f05f855717386434e79cfd2a3d8d32500c1232d1e39f5b6d3468d50e", func := "example.com/xorfield/xorfield/zzlaws_internal_overlay_b1.FnReadNodeRoundTrip", spec := "fnReadNodeRoundTrip", stops := ["fmt.Sprintf, its operands' methods called", "fmt.errorf"], inPlace := ["fmt.Sprintf", "fmt.errorf"], unfollowed := true, recurses := true, named := ["encoding/binary.LittleEndian"], apart := false }
/-- NO THEOREM (fmt's text is open here; it may be false): for the released tool's asking of the row's closed facts alone. THE STATEMENT IS 'FnReadNodeRoundTripToldSaid' (Qxb6605704aFmtCards.lean). -/
def FnReadNodeRoundTripFormAsk : Prop := fnReadNodeRoundTripRow.holds Tryf.pinned (OpenSpec.ofChange fnReadNodeRoundTripSpec)

/-- ITS FALSE NEIGHBOUR: 'it returns false'. Refute it at one input. -/
def fnReadNodeRoundTripWrong : ChangeSpec := { name := "fnReadNodeRoundTrip", fn := fun _ => fun
  | [d1, d2, d3, d4] => { results := [.lit (.bool false)], args := [d1, d2, d3, d4] }
  | _ => none }
def FnReadNodeRoundTripWrongFormAsk : Prop := fnReadNodeRoundTripRow.holds Tryf.pinned (OpenSpec.ofChange fnReadNodeRoundTripWrong)

/-- 'zzlaws_internal_overlay_b1.FnNodesAppendTLWire': WHATEVER THE INPUT: true; the input reads as it did. -/
def fnNodesAppendTLWireSpec : ChangeSpec := { name := "fnNodesAppendTLWire", fn := fun _ => fun
  | [d1, d2] => { results := [.lit (.bool true)], args := [d1, d2] }
  | _ => none }
def fnNodesAppendTLWireRow : OpenClaim := { program := "qxb6605704afmt", sum := "1f4288e7f05f855717386434e79cfd2a3d8d32500c1232d1e39f5b6d3468d50e", func := "example.com/xorfield/xorfield/zzlaws_internal_overlay_b1.FnNodesAppendTLWire", spec := "fnNodesAppendTLWire", stops := ["fmt.Sprintf, its operands' methods called", "fmt.errorf"], inPlace := ["fmt.Sprintf"], unfollowed := true, recurses := true, named := ["encoding/binary.LittleEndian"], apart := false }
/-- NO THEOREM (fmt's text is open here; it may be false): for the released tool's asking of the row's closed facts alone. THE STATEMENT IS 'FnNodesAppendTLWireToldSaid' (Qxb6605704aFmtCards.lean). -/
def FnNodesAppendTLWireFormAsk : Prop := fnNodesAppendTLWireRow.holds Tryf.pinned (OpenSpec.ofChange fnNodesAppendTLWireSpec)

/-- ITS FALSE NEIGHBOUR: 'it returns false'. Refute it at one input. -/
def fnNodesAppendTLWireWrong : ChangeSpec := { name := "fnNodesAppendTLWire", fn := fun _ => fun
  | [d1, d2] => { results := [.lit (.bool false)], args := [d1, d2] }
  | _ => none }
def FnNodesAppendTLWireWrongFormAsk : Prop := fnNodesAppendTLWireRow.holds Tryf.pinned (OpenSpec.ofChange fnNodesAppendTLWireWrong)

/-- 'zzlaws_internal_overlay_b1.FnNodesAppendTLReadBack': WHATEVER THE INPUT: true; the input reads as it did. -/
def fnNodesAppendTLReadBackSpec : ChangeSpec := { name := "fnNodesAppendTLReadBack", fn := fun _ => fun
  | [d] => { results := [.lit (.bool true)], args := [d] }
  | _ => none }
def fnNodesAppendTLReadBackRow : OpenClaim := { program := "qxb6605704afmt", sum := "1f4288e7f05f855717386434e79cfd2a3d8d32500c1232d1e39f5b6d3468d50e", func := "example.com/xorfield/xorfield/zzlaws_internal_overlay_b1.FnNodesAppendTLReadBack", spec := "fnNodesAppendTLReadBack", stops := ["fmt.Sprintf, its operands' methods called", "fmt.errorf"], inPlace := ["fmt.Sprintf", "fmt.errorf"], unfollowed := true, recurses := true, named := ["encoding/binary.LittleEndian"], apart := false }
/-- NO THEOREM (fmt's text is open here; it may be false): for the released tool's asking of the row's closed facts alone. THE STATEMENT IS 'FnNodesAppendTLReadBackToldSaid' (Qxb6605704aFmtCards.lean). -/
def FnNodesAppendTLReadBackFormAsk : Prop := fnNodesAppendTLReadBackRow.holds Tryf.pinned (OpenSpec.ofChange fnNodesAppendTLReadBackSpec)

/-- ITS FALSE NEIGHBOUR: 'it returns false'. Refute it at one input. -/
def fnNodesAppendTLReadBackWrong : ChangeSpec := { name := "fnNodesAppendTLReadBack", fn := fun _ => fun
  | [d] => { results := [.lit (.bool false)], args := [d] }
  | _ => none }
def FnNodesAppendTLReadBackWrongFormAsk : Prop := fnNodesAppendTLReadBackRow.holds Tryf.pinned (OpenSpec.ofChange fnNodesAppendTLReadBackWrong)

/-- 'zzlaws_internal_overlay_b1.FnNodesTrimLongestFit': WHATEVER THE INPUT: true; the input reads as it did. -/
def fnNodesTrimLongestFitSpec : ChangeSpec := { name := "fnNodesTrimLongestFit", fn := fun _ => fun
  | [d1, d2] => { results := [.lit (.bool true)], args := [d1, d2] }
  | _ => none }
def fnNodesTrimLongestFitRow : OpenClaim := { program := "qxb6605704afmt", sum := "1f4288e7f05f855717386434e79cfd2a3d8d32500c1232d1e39f5b6d3468d50e", func := "example.com/xorfield/xorfield/zzlaws_internal_overlay_b1.FnNodesTrimLongestFit", spec := "fnNodesTrimLongestFit", stops := ["fmt.Sprintf, its operands' methods called", "fmt.errorf"], inPlace := ["fmt.Sprintf"], unfollowed := true, recurses := true, named := ["encoding/binary.LittleEndian"], apart := false }
/-- NO THEOREM (fmt's text is open here; it may be false): for the released tool's asking of the row's closed facts alone. THE STATEMENT IS 'FnNodesTrimLongestFitToldSaid' (Qxb6605704aFmtCards.lean). -/
def FnNodesTrimLongestFitFormAsk : Prop := fnNodesTrimLongestFitRow.holds Tryf.pinned (OpenSpec.ofChange fnNodesTrimLongestFitSpec)

/-- ITS FALSE NEIGHBOUR: 'it returns false'. Refute it at one input. -/
def fnNodesTrimLongestFitWrong : ChangeSpec := { name := "fnNodesTrimLongestFit", fn := fun _ => fun
  | [d1, d2] => { results := [.lit (.bool false)], args := [d1, d2] }
  | _ => none }
def FnNodesTrimLongestFitWrongFormAsk : Prop := fnNodesTrimLongestFitRow.holds Tryf.pinned (OpenSpec.ofChange fnNodesTrimLongestFitWrong)

/-- 'zzlaws_internal_overlay_b1.FnNodesTrimCount': WHATEVER THE INPUT: true; the input reads as it did. -/
def fnNodesTrimCountSpec : ChangeSpec := { name := "fnNodesTrimCount", fn := fun _ => fun
  | [d1, d2] => { results := [.lit (.bool true)], args := [d1, d2] }
  | _ => none }
def fnNodesTrimCountRow : OpenClaim := { program := "qxb6605704afmt", sum := "1f4288e7f05f855717386434e79cfd2a3d8d32500c1232d1e39f5b6d3468d50e", func := "example.com/xorfield/xorfield/zzlaws_internal_overlay_b1.FnNodesTrimCount", spec := "fnNodesTrimCount", stops := ["fmt.Sprintf, its operands' methods called", "fmt.errorf"], inPlace := ["fmt.Sprintf"], unfollowed := true, recurses := true, named := ["encoding/binary.LittleEndian"], apart := false }
/-- NO THEOREM (fmt's text is open here; it may be false): for the released tool's asking of the row's closed facts alone. THE STATEMENT IS 'FnNodesTrimCountToldSaid' (Qxb6605704aFmtCards.lean). -/
def FnNodesTrimCountFormAsk : Prop := fnNodesTrimCountRow.holds Tryf.pinned (OpenSpec.ofChange fnNodesTrimCountSpec)

/-- ITS FALSE NEIGHBOUR: 'it returns false'. Refute it at one input. -/
def fnNodesTrimCountWrong : ChangeSpec := { name := "fnNodesTrimCount", fn := fun _ => fun
  | [d1, d2] => { results := [.lit (.bool false)], args := [d1, d2] }
  | _ => none }
def FnNodesTrimCountWrongFormAsk : Prop := fnNodesTrimCountRow.holds Tryf.pinned (OpenSpec.ofChange fnNodesTrimCountWrong)

end Rows
end Go.Proofs.Qxb6605704aFmt

/-
  DERIVED. GIVEN WITH THE SEED: THE CARDS: each row of Qxb6605704aFmtRows.lean that lists a variable, with what it lists TIED to the program's text (the seventh form; the later family's looks); each row that meets fmt, with fmt's text TOLD by the authors' own Lean function (tested against real Go, not proved from fmt's source: count such statements apart). THE CARD IS WHAT COUNTS. Prove the row's statement (the work); the ties are given (Qxb6605704aFmtTie.lean); close each card by the builder's one call (the guide's Derived/Test/ToyasCard.lean, 'card_holds'). Laid BY PROGRAM, IN A SANDBOX (cutbox-door.mjs). By AI agents, Wed Nov 11 2026. No macro, syntax, notation, axiom, sorry.
-/
import Derived.Test.Qxb6605704aFmtRows
import GoSem.ClaimSeven
namespace Go.Proofs.Qxb6605704aFmt
namespace Rows

/-- THE TOLD CARD OF 'zzlaws_internal_overlay_b1.FnReadNodeSpec'. -/
def fnReadNodeSpecCard : Claim7 := { stood := { row := fnReadNodeSpecRow, standIns := [], harness := (true, "b27da8cb564618a3a856726c25b0e07bcd5057ae51cfeaedad7d4675cd814e7f"), looks := true }, told := true, goes := false }
def FnReadNodeSpecToldSaid : Prop := Claim7.holds Tryf.pinned (.plain (OpenSpec.ofChange fnReadNodeSpecSpec)) fnReadNodeSpecCard
/-- ITS FALSE NEIGHBOUR. Refute it at one input. -/
def FnReadNodeSpecToldWrongFalsely : Prop := Claim7.holds Tryf.pinned (.plain (OpenSpec.ofChange fnReadNodeSpecWrong)) fnReadNodeSpecCard

/-- THE TOLD CARD OF 'zzlaws_internal_overlay_b1.FnReadNodeRoundTrip'. -/
def fnReadNodeRoundTripCard : Claim7 := { stood := { row := fnReadNodeRoundTripRow, standIns := [], harness := (true, "b27da8cb564618a3a856726c25b0e07bcd5057ae51cfeaedad7d4675cd814e7f"), looks := true }, told := true, goes := false }
def FnReadNodeRoundTripToldSaid : Prop := Claim7.holds Tryf.pinned (.plain (OpenSpec.ofChange fnReadNodeRoundTripSpec)) fnReadNodeRoundTripCard
/-- ITS FALSE NEIGHBOUR. Refute it at one input. -/
def FnReadNodeRoundTripToldWrongFalsely : Prop := Claim7.holds Tryf.pinned (.plain (OpenSpec.ofChange fnReadNodeRoundTripWrong)) fnReadNodeRoundTripCard

/-- THE TOLD CARD OF 'zzlaws_internal_overlay_b1.FnNodesAppendTLWire'. -/
def fnNodesAppendTLWireCard : Claim7 := { stood := { row := fnNodesAppendTLWireRow, standIns := [], harness := (true, "b27da8cb564618a3a856726c25b0e07bcd5057ae51cfeaedad7d4675cd814e7f"), looks := true }, told := true, goes := false }
def FnNodesAppendTLWireToldSaid : Prop := Claim7.holds Tryf.pinned (.plain (OpenSpec.ofChange fnNodesAppendTLWireSpec)) fnNodesAppendTLWireCard
/-- ITS FALSE NEIGHBOUR. Refute it at one input. -/
def FnNodesAppendTLWireToldWrongFalsely : Prop := Claim7.holds Tryf.pinned (.plain (OpenSpec.ofChange fnNodesAppendTLWireWrong)) fnNodesAppendTLWireCard

/-- THE TOLD CARD OF 'zzlaws_internal_overlay_b1.FnNodesAppendTLReadBack'. -/
def fnNodesAppendTLReadBackCard : Claim7 := { stood := { row := fnNodesAppendTLReadBackRow, standIns := [], harness := (true, "b27da8cb564618a3a856726c25b0e07bcd5057ae51cfeaedad7d4675cd814e7f"), looks := true }, told := true, goes := false }
def FnNodesAppendTLReadBackToldSaid : Prop := Claim7.holds Tryf.pinned (.plain (OpenSpec.ofChange fnNodesAppendTLReadBackSpec)) fnNodesAppendTLReadBackCard
/-- ITS FALSE NEIGHBOUR. Refute it at one input. -/
def FnNodesAppendTLReadBackToldWrongFalsely : Prop := Claim7.holds Tryf.pinned (.plain (OpenSpec.ofChange fnNodesAppendTLReadBackWrong)) fnNodesAppendTLReadBackCard

/-- THE TOLD CARD OF 'zzlaws_internal_overlay_b1.FnNodesTrimLongestFit'. -/
def fnNodesTrimLongestFitCard : Claim7 := { stood := { row := fnNodesTrimLongestFitRow, standIns := [], harness := (true, "b27da8cb564618a3a856726c25b0e07bcd5057ae51cfeaedad7d4675cd814e7f"), looks := true }, told := true, goes := false }
def FnNodesTrimLongestFitToldSaid : Prop := Claim7.holds Tryf.pinned (.plain (OpenSpec.ofChange fnNodesTrimLongestFitSpec)) fnNodesTrimLongestFitCard
/-- ITS FALSE NEIGHBOUR. Refute it at one input. -/
def FnNodesTrimLongestFitToldWrongFalsely : Prop := Claim7.holds Tryf.pinned (.plain (OpenSpec.ofChange fnNodesTrimLongestFitWrong)) fnNodesTrimLongestFitCard

/-- THE TOLD CARD OF 'zzlaws_internal_overlay_b1.FnNodesTrimCount'. -/
def fnNodesTrimCountCard : Claim7 := { stood := { row := fnNodesTrimCountRow, standIns := [], harness := (true, "b27da8cb564618a3a856726c25b0e07bcd5057ae51cfeaedad7d4675cd814e7f"), looks := true }, told := true, goes := false }
def FnNodesTrimCountToldSaid : Prop := Claim7.holds Tryf.pinned (.plain (OpenSpec.ofChange fnNodesTrimCountSpec)) fnNodesTrimCountCard
/-- ITS FALSE NEIGHBOUR. Refute it at one input. -/
def FnNodesTrimCountToldWrongFalsely : Prop := Claim7.holds Tryf.pinned (.plain (OpenSpec.ofChange fnNodesTrimCountWrong)) fnNodesTrimCountCard
end Rows
end Go.Proofs.Qxb6605704aFmt

/-
  No cell of these rows narrows 'for every input' (looked for: loops, veiled, ifaces, maps, wideKeys, modest, calm, conditions, laid).
  DERIVED. THE GIVEN ROWS OF THIS SEAT. 5 by the template 'for every input the law returns true; each argument reads behind the call as it read before'; 0 by the template 'total and deterministic' (their statements: Qxb6603110aModsTotals.lean).
  GIVEN WITH THE SEED: the statements are not yours to turn. If you find one false, say at which input.
  Laid BY PROGRAM, IN A SANDBOX (cutbox-rows.mjs): the forced cells as the released guide's own fill.sh prints them over the translation 67e75e5fec2b0bac… (all of the seat's roots in one cut). By AI agents, Wed Nov 11 2026. No macro, syntax, notation, axiom, sorry.
-/
import Derived.Test.Qxb6603110aModsChecked
import GoSem.Claim
import GoSem.ClaimJoined
import GoSem.ClaimMapViews
import Derived.JoinedTies
import Derived.KernelRfl
namespace Go.Proofs.Qxb6603110aMods
/- THE CELL 'sum', in the pinned program and in every row, IS THE sha256 OF THE DUMP (.gsa) THAT Qxb6603110aModsProg.lean LOADS. Nothing in Lean hashes anything: it is a label: what it is worth is what the hold of that sum in a sandbox is worth. -/
noncomputable def Trym.pinned : Pinned := { name := "qxb6603110amods", sum := "67e75e5fec2b0bac9d8d1579a23305ed4f916ff45374f292ce5fda68813b7a25", checked := Trym.checked }
namespace Rows
def none {H : Type} : Left H := { results := [], args := [] }

/-- 'zzlaws_root_b1.FnGrownRoomIsBoundedAndKept': WHATEVER THE INPUT: true; the input reads as it did. -/
def fnGrownRoomIsBoundedAndKeptSpec : ChangeSpec := { name := "fnGrownRoomIsBoundedAndKept", fn := fun _ => fun
  | [d1, d2, d3] => { results := [.lit (.bool true)], args := [d1, d2, d3] }
  | _ => none }
def fnGrownRoomIsBoundedAndKeptRow : OpenClaim := { program := "qxb6603110amods", sum := "67e75e5fec2b0bac9d8d1579a23305ed4f916ff45374f292ce5fda68813b7a25", func := "example.com/braided-turns/braided-turns/zzlaws_root_b1.FnGrownRoomIsBoundedAndKept", spec := "fnGrownRoomIsBoundedAndKept", make := .lifted ["publicsums"], apart := false }
def FnGrownRoomIsBoundedAndKeptSaid : Prop := fnGrownRoomIsBoundedAndKeptRow.holds Trym.pinned (OpenSpec.ofChange fnGrownRoomIsBoundedAndKeptSpec)

/-- ITS FALSE NEIGHBOUR: 'it returns false'. Refute it at one input. -/
def fnGrownRoomIsBoundedAndKeptWrong : ChangeSpec := { name := "fnGrownRoomIsBoundedAndKept", fn := fun _ => fun
  | [d1, d2, d3] => { results := [.lit (.bool false)], args := [d1, d2, d3] }
  | _ => none }
def FnGrownRoomIsBoundedAndKeptWrongFalsely : Prop := fnGrownRoomIsBoundedAndKeptRow.holds Trym.pinned (OpenSpec.ofChange fnGrownRoomIsBoundedAndKeptWrong)

/-- 'zzlaws_root_b1.FnScanMatchesByteModel': WHATEVER THE INPUT: true; the input reads as it did. -/
def fnScanMatchesByteModelSpec : ChangeSpec := { name := "fnScanMatchesByteModel", fn := fun _ => fun
  | [d1, d2, d3, d4, d5] => { results := [.lit (.bool true)], args := [d1, d2, d3, d4, d5] }
  | _ => none }
def fnScanMatchesByteModelRow : OpenClaim := { program := "qxb6603110amods", sum := "67e75e5fec2b0bac9d8d1579a23305ed4f916ff45374f292ce5fda68813b7a25", func := "example.com/braided-turns/braided-turns/zzlaws_root_b1.FnScanMatchesByteModel", spec := "fnScanMatchesByteModel", inPlace := ["internal/bytealg.IndexByte"], make := .lifted ["publicsums"], apart := false }
def FnScanMatchesByteModelSaid : Prop := fnScanMatchesByteModelRow.holds Trym.pinned (OpenSpec.ofChange fnScanMatchesByteModelSpec)

/-- ITS FALSE NEIGHBOUR: 'it returns false'. Refute it at one input. -/
def fnScanMatchesByteModelWrong : ChangeSpec := { name := "fnScanMatchesByteModel", fn := fun _ => fun
  | [d1, d2, d3, d4, d5] => { results := [.lit (.bool false)], args := [d1, d2, d3, d4, d5] }
  | _ => none }
def FnScanMatchesByteModelWrongFalsely : Prop := fnScanMatchesByteModelRow.holds Trym.pinned (OpenSpec.ofChange fnScanMatchesByteModelWrong)

/-- 'zzlaws_root_b1.FnScanChunkedIsWhole': WHATEVER THE INPUT: true; the input reads as it did. -/
def fnScanChunkedIsWholeSpec : ChangeSpec := { name := "fnScanChunkedIsWhole", fn := fun _ => fun
  | [d1, d2, d3, d4, d5, d6] => { results := [.lit (.bool true)], args := [d1, d2, d3, d4, d5, d6] }
  | _ => none }
def fnScanChunkedIsWholeRow : OpenClaim := { program := "qxb6603110amods", sum := "67e75e5fec2b0bac9d8d1579a23305ed4f916ff45374f292ce5fda68813b7a25", func := "example.com/braided-turns/braided-turns/zzlaws_root_b1.FnScanChunkedIsWhole", spec := "fnScanChunkedIsWhole", inPlace := ["internal/bytealg.IndexByte"], make := .lifted ["publicsums"], apart := false }
def FnScanChunkedIsWholeSaid : Prop := fnScanChunkedIsWholeRow.holds Trym.pinned (OpenSpec.ofChange fnScanChunkedIsWholeSpec)

/-- ITS FALSE NEIGHBOUR: 'it returns false'. Refute it at one input. -/
def fnScanChunkedIsWholeWrong : ChangeSpec := { name := "fnScanChunkedIsWhole", fn := fun _ => fun
  | [d1, d2, d3, d4, d5, d6] => { results := [.lit (.bool false)], args := [d1, d2, d3, d4, d5, d6] }
  | _ => none }
def FnScanChunkedIsWholeWrongFalsely : Prop := fnScanChunkedIsWholeRow.holds Trym.pinned (OpenSpec.ofChange fnScanChunkedIsWholeWrong)

/-- 'zzlaws_root_b1.FnHoldingOverConcatenation': WHATEVER THE INPUT: true; the input reads as it did. -/
def fnHoldingOverConcatenationSpec : ChangeSpec := { name := "fnHoldingOverConcatenation", fn := fun _ => fun
  | [d1, d2, d3] => { results := [.lit (.bool true)], args := [d1, d2, d3] }
  | _ => none }
def fnHoldingOverConcatenationRow : OpenClaim := { program := "qxb6603110amods", sum := "67e75e5fec2b0bac9d8d1579a23305ed4f916ff45374f292ce5fda68813b7a25", func := "example.com/braided-turns/braided-turns/zzlaws_root_b1.FnHoldingOverConcatenation", spec := "fnHoldingOverConcatenation", make := .lifted ["publicsums"], apart := false }
def FnHoldingOverConcatenationSaid : Prop := fnHoldingOverConcatenationRow.holds Trym.pinned (OpenSpec.ofChange fnHoldingOverConcatenationSpec)

/-- ITS FALSE NEIGHBOUR: 'it returns false'. Refute it at one input. -/
def fnHoldingOverConcatenationWrong : ChangeSpec := { name := "fnHoldingOverConcatenation", fn := fun _ => fun
  | [d1, d2, d3] => { results := [.lit (.bool false)], args := [d1, d2, d3] }
  | _ => none }
def FnHoldingOverConcatenationWrongFalsely : Prop := fnHoldingOverConcatenationRow.holds Trym.pinned (OpenSpec.ofChange fnHoldingOverConcatenationWrong)

/-- 'zzlaws_root_b1.FnHoldingStaysHeldFurtherOn': WHATEVER THE INPUT: true; the input reads as it did. -/
def fnHoldingStaysHeldFurtherOnSpec : ChangeSpec := { name := "fnHoldingStaysHeldFurtherOn", fn := fun _ => fun
  | [d1, d2, d3] => { results := [.lit (.bool true)], args := [d1, d2, d3] }
  | _ => none }
def fnHoldingStaysHeldFurtherOnRow : OpenClaim := { program := "qxb6603110amods", sum := "67e75e5fec2b0bac9d8d1579a23305ed4f916ff45374f292ce5fda68813b7a25", func := "example.com/braided-turns/braided-turns/zzlaws_root_b1.FnHoldingStaysHeldFurtherOn", spec := "fnHoldingStaysHeldFurtherOn", make := .lifted ["publicsums"], apart := false }
def FnHoldingStaysHeldFurtherOnSaid : Prop := fnHoldingStaysHeldFurtherOnRow.holds Trym.pinned (OpenSpec.ofChange fnHoldingStaysHeldFurtherOnSpec)

/-- ITS FALSE NEIGHBOUR: 'it returns false'. Refute it at one input. -/
def fnHoldingStaysHeldFurtherOnWrong : ChangeSpec := { name := "fnHoldingStaysHeldFurtherOn", fn := fun _ => fun
  | [d1, d2, d3] => { results := [.lit (.bool false)], args := [d1, d2, d3] }
  | _ => none }
def FnHoldingStaysHeldFurtherOnWrongFalsely : Prop := fnHoldingStaysHeldFurtherOnRow.holds Trym.pinned (OpenSpec.ofChange fnHoldingStaysHeldFurtherOnWrong)

end Rows
end Go.Proofs.Qxb6603110aMods

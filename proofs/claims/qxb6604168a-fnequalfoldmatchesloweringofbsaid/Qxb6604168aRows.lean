/-
  No cell of these rows narrows 'for every input' (looked for: loops, veiled, ifaces, maps, wideKeys, modest, calm, conditions, laid).
  DERIVED. THE GIVEN ROWS OF THIS SEAT. 6 by the template 'for every input the law returns true; each argument reads behind the call as it read before'; 0 by the template 'total and deterministic' (their statements: Qxb6604168aTotals.lean).
  GIVEN WITH THE SEED: the statements are not yours to turn. If you find one false, say at which input.
  Laid BY PROGRAM, IN A SANDBOX (cutbox-rows.mjs): the forced cells as the released guide's own fill.sh prints them over the translation 75b6807c7e34b775… (all of the seat's roots in one cut). By AI agents, Wed Nov 11 2026. No macro, syntax, notation, axiom, sorry.
-/
import Derived.Test.Qxb6604168aChecked
import GoSem.Claim
import GoSem.ClaimJoined
import GoSem.ClaimMapViews
import Derived.JoinedTies
import Derived.KernelRfl
namespace Go.Proofs.Qxb6604168a
/- THE CELL 'sum', in the pinned program and in every row, IS THE sha256 OF THE DUMP (.gsa) THAT Qxb6604168aProg.lean LOADS. Nothing in Lean hashes anything: it is a label: what it is worth is what the hold of that sum in a sandbox is worth. -/
noncomputable def Try.pinned : Pinned := { name := "qxb6604168a", sum := "75b6807c7e34b77595f9ba5c2e2415a8df57f7c33b8b66fa002b10895e118ad2", checked := Try.checked }
namespace Rows
def none {H : Type} : Left H := { results := [], args := [] }

/-- 'zzlaws_internal_http1_b1.FnMethodStringIsStringOfBytes': WHATEVER THE INPUT: true; the input reads as it did. -/
def fnMethodStringIsStringOfBytesSpec : ChangeSpec := { name := "fnMethodStringIsStringOfBytes", fn := fun _ => fun
  | [d] => { results := [.lit (.bool true)], args := [d] }
  | _ => none }
def fnMethodStringIsStringOfBytesRow : OpenClaim := { program := "qxb6604168a", sum := "75b6807c7e34b77595f9ba5c2e2415a8df57f7c33b8b66fa002b10895e118ad2", func := "example.com/syncline/syncline/zzlaws_internal_http1_b1.FnMethodStringIsStringOfBytes", spec := "fnMethodStringIsStringOfBytes", apart := false }
def FnMethodStringIsStringOfBytesSaid : Prop := fnMethodStringIsStringOfBytesRow.holds Try.pinned (OpenSpec.ofChange fnMethodStringIsStringOfBytesSpec)

/-- ITS FALSE NEIGHBOUR: 'it returns false'. Refute it at one input. -/
def fnMethodStringIsStringOfBytesWrong : ChangeSpec := { name := "fnMethodStringIsStringOfBytes", fn := fun _ => fun
  | [d] => { results := [.lit (.bool false)], args := [d] }
  | _ => none }
def FnMethodStringIsStringOfBytesWrongFalsely : Prop := fnMethodStringIsStringOfBytesRow.holds Try.pinned (OpenSpec.ofChange fnMethodStringIsStringOfBytesWrong)

/-- 'zzlaws_internal_http1_b1.FnEqualFoldSpec': WHATEVER THE INPUT: true; the input reads as it did. -/
def fnEqualFoldSpecSpec : ChangeSpec := { name := "fnEqualFoldSpec", fn := fun _ => fun
  | [d1, d2] => { results := [.lit (.bool true)], args := [d1, d2] }
  | _ => none }
def fnEqualFoldSpecRow : OpenClaim := { program := "qxb6604168a", sum := "75b6807c7e34b77595f9ba5c2e2415a8df57f7c33b8b66fa002b10895e118ad2", func := "example.com/syncline/syncline/zzlaws_internal_http1_b1.FnEqualFoldSpec", spec := "fnEqualFoldSpec", apart := false }
def FnEqualFoldSpecSaid : Prop := fnEqualFoldSpecRow.holds Try.pinned (OpenSpec.ofChange fnEqualFoldSpecSpec)

/-- ITS FALSE NEIGHBOUR: 'it returns false'. Refute it at one input. -/
def fnEqualFoldSpecWrong : ChangeSpec := { name := "fnEqualFoldSpec", fn := fun _ => fun
  | [d1, d2] => { results := [.lit (.bool false)], args := [d1, d2] }
  | _ => none }
def FnEqualFoldSpecWrongFalsely : Prop := fnEqualFoldSpecRow.holds Try.pinned (OpenSpec.ofChange fnEqualFoldSpecWrong)

/-- 'zzlaws_internal_http1_b1.FnEqualFoldMatchesLoweringOfB': WHATEVER THE INPUT: true; the input reads as it did. -/
def fnEqualFoldMatchesLoweringOfBSpec : ChangeSpec := { name := "fnEqualFoldMatchesLoweringOfB", fn := fun _ => fun
  | [d] => { results := [.lit (.bool true)], args := [d] }
  | _ => none }
def fnEqualFoldMatchesLoweringOfBRow : OpenClaim := { program := "qxb6604168a", sum := "75b6807c7e34b77595f9ba5c2e2415a8df57f7c33b8b66fa002b10895e118ad2", func := "example.com/syncline/syncline/zzlaws_internal_http1_b1.FnEqualFoldMatchesLoweringOfB", spec := "fnEqualFoldMatchesLoweringOfB", apart := false }
def FnEqualFoldMatchesLoweringOfBSaid : Prop := fnEqualFoldMatchesLoweringOfBRow.holds Try.pinned (OpenSpec.ofChange fnEqualFoldMatchesLoweringOfBSpec)

/-- ITS FALSE NEIGHBOUR: 'it returns false'. Refute it at one input. -/
def fnEqualFoldMatchesLoweringOfBWrong : ChangeSpec := { name := "fnEqualFoldMatchesLoweringOfB", fn := fun _ => fun
  | [d] => { results := [.lit (.bool false)], args := [d] }
  | _ => none }
def FnEqualFoldMatchesLoweringOfBWrongFalsely : Prop := fnEqualFoldMatchesLoweringOfBRow.holds Try.pinned (OpenSpec.ofChange fnEqualFoldMatchesLoweringOfBWrong)

/-- 'zzlaws_internal_http1_b1.FnParseLengthSpec': WHATEVER THE INPUT: true; the input reads as it did. -/
def fnParseLengthSpecSpec : ChangeSpec := { name := "fnParseLengthSpec", fn := fun _ => fun
  | [d] => { results := [.lit (.bool true)], args := [d] }
  | _ => none }
def fnParseLengthSpecRow : OpenClaim := { program := "qxb6604168a", sum := "75b6807c7e34b77595f9ba5c2e2415a8df57f7c33b8b66fa002b10895e118ad2", func := "example.com/syncline/syncline/zzlaws_internal_http1_b1.FnParseLengthSpec", spec := "fnParseLengthSpec", apart := false }
def FnParseLengthSpecSaid : Prop := fnParseLengthSpecRow.holds Try.pinned (OpenSpec.ofChange fnParseLengthSpecSpec)

/-- ITS FALSE NEIGHBOUR: 'it returns false'. Refute it at one input. -/
def fnParseLengthSpecWrong : ChangeSpec := { name := "fnParseLengthSpec", fn := fun _ => fun
  | [d] => { results := [.lit (.bool false)], args := [d] }
  | _ => none }
def FnParseLengthSpecWrongFalsely : Prop := fnParseLengthSpecRow.holds Try.pinned (OpenSpec.ofChange fnParseLengthSpecWrong)

/-- 'zzlaws_internal_http1_b1.FnParseLengthRoundTrip': WHATEVER THE INPUT: true; the input reads as it did. -/
def fnParseLengthRoundTripSpec : ChangeSpec := { name := "fnParseLengthRoundTrip", fn := fun _ => fun
  | [d1, d2] => { results := [.lit (.bool true)], args := [d1, d2] }
  | _ => none }
def fnParseLengthRoundTripRow : OpenClaim := { program := "qxb6604168a", sum := "75b6807c7e34b77595f9ba5c2e2415a8df57f7c33b8b66fa002b10895e118ad2", func := "example.com/syncline/syncline/zzlaws_internal_http1_b1.FnParseLengthRoundTrip", spec := "fnParseLengthRoundTrip", apart := false }
def FnParseLengthRoundTripSaid : Prop := fnParseLengthRoundTripRow.holds Try.pinned (OpenSpec.ofChange fnParseLengthRoundTripSpec)

/-- ITS FALSE NEIGHBOUR: 'it returns false'. Refute it at one input. -/
def fnParseLengthRoundTripWrong : ChangeSpec := { name := "fnParseLengthRoundTrip", fn := fun _ => fun
  | [d1, d2] => { results := [.lit (.bool false)], args := [d1, d2] }
  | _ => none }
def FnParseLengthRoundTripWrongFalsely : Prop := fnParseLengthRoundTripRow.holds Try.pinned (OpenSpec.ofChange fnParseLengthRoundTripWrong)

/-- 'zzlaws_internal_http1_b1.FnParseLengthOrderMatchesBytes': WHATEVER THE INPUT: true; the input reads as it did. -/
def fnParseLengthOrderMatchesBytesSpec : ChangeSpec := { name := "fnParseLengthOrderMatchesBytes", fn := fun _ => fun
  | [d1, d2] => { results := [.lit (.bool true)], args := [d1, d2] }
  | _ => none }
def fnParseLengthOrderMatchesBytesRow : OpenClaim := { program := "qxb6604168a", sum := "75b6807c7e34b77595f9ba5c2e2415a8df57f7c33b8b66fa002b10895e118ad2", func := "example.com/syncline/syncline/zzlaws_internal_http1_b1.FnParseLengthOrderMatchesBytes", spec := "fnParseLengthOrderMatchesBytes", apart := false }
def FnParseLengthOrderMatchesBytesSaid : Prop := fnParseLengthOrderMatchesBytesRow.holds Try.pinned (OpenSpec.ofChange fnParseLengthOrderMatchesBytesSpec)

/-- ITS FALSE NEIGHBOUR: 'it returns false'. Refute it at one input. -/
def fnParseLengthOrderMatchesBytesWrong : ChangeSpec := { name := "fnParseLengthOrderMatchesBytes", fn := fun _ => fun
  | [d1, d2] => { results := [.lit (.bool false)], args := [d1, d2] }
  | _ => none }
def FnParseLengthOrderMatchesBytesWrongFalsely : Prop := fnParseLengthOrderMatchesBytesRow.holds Try.pinned (OpenSpec.ofChange fnParseLengthOrderMatchesBytesWrong)

end Rows
end Go.Proofs.Qxb6604168a

/-
  No cell of these rows narrows 'for every input' (looked for: loops, veiled, ifaces, maps, wideKeys, modest, calm, conditions, laid).
  DERIVED. THE GIVEN ROWS OF THIS SEAT. 3 by the template 'for every input the law returns true; each argument reads behind the call as it read before'; 0 by the template 'total and deterministic' (their statements: Qxb6600908aTotals.lean).
  GIVEN WITH THE SEED: the statements are not yours to turn. If you find one false, say at which input.
  Laid BY PROGRAM, IN A SANDBOX (cutbox-rows.mjs): the forced cells as the released guide's own fill.sh prints them over the translation abaa26aa47fd4dd4… (all of the seat's roots in one cut). By AI agents, Wed Nov 11 2026. No macro, syntax, notation, axiom, sorry.
-/
import Derived.Test.Qxb6600908aChecked
import GoSem.Claim
import GoSem.ClaimJoined
import GoSem.ClaimMapViews
import Derived.JoinedTies
import Derived.KernelRfl
namespace Go.Proofs.Qxb6600908a
/- THE CELL 'sum', in the pinned program and in every row, IS THE sha256 OF THE DUMP (.gsa) THAT Qxb6600908aProg.lean LOADS. Nothing in Lean hashes anything: it is a label: what it is worth is what the hold of that sum in a sandbox is worth. -/
noncomputable def Try.pinned : Pinned := { name := "qxb6600908a", sum := "abaa26aa47fd4dd4b6c3cb5471a31cc15c1e874ef700ddd76ce14d3049e5d452", checked := Try.checked }
namespace Rows
def none {H : Type} : Left H := { results := [], args := [] }

/-- 'zzlaws_rules_b1.FnSkipStringEndsAtFirstUnescapedDelimiter': WHATEVER THE INPUT: true; the input reads as it did. -/
def fnSkipStringEndsAtFirstUnescapedDelimiterSpec : ChangeSpec := { name := "fnSkipStringEndsAtFirstUnescapedDelimiter", fn := fun _ => fun
  | [d1, d2, d3] => { results := [.lit (.bool true)], args := [d1, d2, d3] }
  | _ => none }
def fnSkipStringEndsAtFirstUnescapedDelimiterRow : OpenClaim := { program := "qxb6600908a", sum := "abaa26aa47fd4dd4b6c3cb5471a31cc15c1e874ef700ddd76ce14d3049e5d452", func := "example.com/hedgerow/hedgerow/zzlaws_rules_b1.FnSkipStringEndsAtFirstUnescapedDelimiter", spec := "fnSkipStringEndsAtFirstUnescapedDelimiter", inPlace := ["internal/abi.NoEscape", "internal/bytealg.MakeNoZero"], apart := false }
def FnSkipStringEndsAtFirstUnescapedDelimiterSaid : Prop := fnSkipStringEndsAtFirstUnescapedDelimiterRow.holds Try.pinned (OpenSpec.ofChange fnSkipStringEndsAtFirstUnescapedDelimiterSpec)

/-- ITS FALSE NEIGHBOUR: 'it returns false'. Refute it at one input. -/
def fnSkipStringEndsAtFirstUnescapedDelimiterWrong : ChangeSpec := { name := "fnSkipStringEndsAtFirstUnescapedDelimiter", fn := fun _ => fun
  | [d1, d2, d3] => { results := [.lit (.bool false)], args := [d1, d2, d3] }
  | _ => none }
def FnSkipStringEndsAtFirstUnescapedDelimiterWrongFalsely : Prop := fnSkipStringEndsAtFirstUnescapedDelimiterRow.holds Try.pinned (OpenSpec.ofChange fnSkipStringEndsAtFirstUnescapedDelimiterWrong)

/-- 'zzlaws_rules_b1.FnSkipStringRoundTripsAnEncodedBody': WHATEVER THE INPUT: true; the input reads as it did. -/
def fnSkipStringRoundTripsAnEncodedBodySpec : ChangeSpec := { name := "fnSkipStringRoundTripsAnEncodedBody", fn := fun _ => fun
  | [d1, d2, d3, d4, d5] => { results := [.lit (.bool true)], args := [d1, d2, d3, d4, d5] }
  | _ => none }
def fnSkipStringRoundTripsAnEncodedBodyRow : OpenClaim := { program := "qxb6600908a", sum := "abaa26aa47fd4dd4b6c3cb5471a31cc15c1e874ef700ddd76ce14d3049e5d452", func := "example.com/hedgerow/hedgerow/zzlaws_rules_b1.FnSkipStringRoundTripsAnEncodedBody", spec := "fnSkipStringRoundTripsAnEncodedBody", inPlace := ["internal/abi.NoEscape", "internal/bytealg.MakeNoZero"], apart := false }
def FnSkipStringRoundTripsAnEncodedBodySaid : Prop := fnSkipStringRoundTripsAnEncodedBodyRow.holds Try.pinned (OpenSpec.ofChange fnSkipStringRoundTripsAnEncodedBodySpec)

/-- ITS FALSE NEIGHBOUR: 'it returns false'. Refute it at one input. -/
def fnSkipStringRoundTripsAnEncodedBodyWrong : ChangeSpec := { name := "fnSkipStringRoundTripsAnEncodedBody", fn := fun _ => fun
  | [d1, d2, d3, d4, d5] => { results := [.lit (.bool false)], args := [d1, d2, d3, d4, d5] }
  | _ => none }
def FnSkipStringRoundTripsAnEncodedBodyWrongFalsely : Prop := fnSkipStringRoundTripsAnEncodedBodyRow.holds Try.pinned (OpenSpec.ofChange fnSkipStringRoundTripsAnEncodedBodyWrong)

/-- 'zzlaws_rules_b1.FnScanValueNotesExactlyTheBareValue': WHATEVER THE INPUT: true; the input reads as it did. -/
def fnScanValueNotesExactlyTheBareValueSpec : ChangeSpec := { name := "fnScanValueNotesExactlyTheBareValue", fn := fun _ => fun
  | [d1, d2, d3, d4, d5, d6, d7, d8] => { results := [.lit (.bool true)], args := [d1, d2, d3, d4, d5, d6, d7, d8] }
  | _ => none }
def fnScanValueNotesExactlyTheBareValueRow : OpenClaim := { program := "qxb6600908a", sum := "abaa26aa47fd4dd4b6c3cb5471a31cc15c1e874ef700ddd76ce14d3049e5d452", func := "example.com/hedgerow/hedgerow/zzlaws_rules_b1.FnScanValueNotesExactlyTheBareValue", spec := "fnScanValueNotesExactlyTheBareValue", inPlace := ["internal/bytealg.IndexByteString", "internal/bytealg.IndexString"], named := ["internal/bytealg.MaxLen"], apart := false }
def FnScanValueNotesExactlyTheBareValueSaid : Prop := fnScanValueNotesExactlyTheBareValueRow.holds Try.pinned (OpenSpec.ofChange fnScanValueNotesExactlyTheBareValueSpec)

/-- ITS FALSE NEIGHBOUR: 'it returns false'. Refute it at one input. -/
def fnScanValueNotesExactlyTheBareValueWrong : ChangeSpec := { name := "fnScanValueNotesExactlyTheBareValue", fn := fun _ => fun
  | [d1, d2, d3, d4, d5, d6, d7, d8] => { results := [.lit (.bool false)], args := [d1, d2, d3, d4, d5, d6, d7, d8] }
  | _ => none }
def FnScanValueNotesExactlyTheBareValueWrongFalsely : Prop := fnScanValueNotesExactlyTheBareValueRow.holds Try.pinned (OpenSpec.ofChange fnScanValueNotesExactlyTheBareValueWrong)

end Rows
end Go.Proofs.Qxb6600908a

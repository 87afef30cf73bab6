/-
  No cell of these rows narrows 'for every input' (looked for: loops, veiled, ifaces, maps, wideKeys, modest, calm, conditions, laid).
  DERIVED. THE GIVEN ROWS OF THIS SEAT. 5 by the template 'for every input the law returns true; each argument reads behind the call as it read before'; 0 by the template 'total and deterministic' (their statements: Qxb6603979aTotals.lean).
  GIVEN WITH THE SEED: the statements are not yours to turn. If you find one false, say at which input.
  Laid BY PROGRAM, IN A SANDBOX (cutbox-rows.mjs): the forced cells as the released guide's own fill.sh prints them over the translation c58c11f578b0a370… (all of the seat's roots in one cut). By AI agents, Wed Nov 11 2026. No macro, syntax, notation, axiom, sorry.
-/
import Derived.Test.Qxb6603979aChecked
import GoSem.Claim
import GoSem.ClaimJoined
import GoSem.ClaimMapViews
import Derived.JoinedTies
import Derived.KernelRfl
namespace Go.Proofs.Qxb6603979a
/- THE CELL 'sum', in the pinned program and in every row, IS THE sha256 OF THE DUMP (.gsa) THAT Qxb6603979aProg.lean LOADS. Nothing in Lean hashes anything: it is a label: what it is worth is what the hold of that sum in a sandbox is worth. -/
noncomputable def Try.pinned : Pinned := { name := "qxb6603979a", sum := "c58c11f578b0a370a0c662db949b5728467baeb2cd0ddf7a0c6851c8e23d0d98", checked := Try.checked }
namespace Rows
def none {H : Type} : Left H := { results := [], args := [] }

/-- 'zzlaws_internal_store_b1.FnFirstAboveIsTheFirstPlaceAbove': WHATEVER THE INPUT: true; the input reads as it did. -/
def fnFirstAboveIsTheFirstPlaceAboveSpec : ChangeSpec := { name := "fnFirstAboveIsTheFirstPlaceAbove", fn := fun _ => fun
  | [d1, d2, d3, d4] => { results := [.lit (.bool true)], args := [d1, d2, d3, d4] }
  | _ => none }
def fnFirstAboveIsTheFirstPlaceAboveRow : OpenClaim := { program := "qxb6603979a", sum := "c58c11f578b0a370a0c662db949b5728467baeb2cd0ddf7a0c6851c8e23d0d98", func := "example.com/quorumkeep/quorumkeep/zzlaws_internal_store_b1.FnFirstAboveIsTheFirstPlaceAbove", spec := "fnFirstAboveIsTheFirstPlaceAbove", apart := false }
def FnFirstAboveIsTheFirstPlaceAboveSaid : Prop := fnFirstAboveIsTheFirstPlaceAboveRow.holds Try.pinned (OpenSpec.ofChange fnFirstAboveIsTheFirstPlaceAboveSpec)

/-- ITS FALSE NEIGHBOUR: 'it returns false'. Refute it at one input. -/
def fnFirstAboveIsTheFirstPlaceAboveWrong : ChangeSpec := { name := "fnFirstAboveIsTheFirstPlaceAbove", fn := fun _ => fun
  | [d1, d2, d3, d4] => { results := [.lit (.bool false)], args := [d1, d2, d3, d4] }
  | _ => none }
def FnFirstAboveIsTheFirstPlaceAboveWrongFalsely : Prop := fnFirstAboveIsTheFirstPlaceAboveRow.holds Try.pinned (OpenSpec.ofChange fnFirstAboveIsTheFirstPlaceAboveWrong)

/-- 'zzlaws_internal_store_b1.FnFirstAboveNeverEarlierForAHigherRevision': WHATEVER THE INPUT: true; the input reads as it did. -/
def fnFirstAboveNeverEarlierForAHigherRevisionSpec : ChangeSpec := { name := "fnFirstAboveNeverEarlierForAHigherRevision", fn := fun _ => fun
  | [d1, d2, d3, d4, d5] => { results := [.lit (.bool true)], args := [d1, d2, d3, d4, d5] }
  | _ => none }
def fnFirstAboveNeverEarlierForAHigherRevisionRow : OpenClaim := { program := "qxb6603979a", sum := "c58c11f578b0a370a0c662db949b5728467baeb2cd0ddf7a0c6851c8e23d0d98", func := "example.com/quorumkeep/quorumkeep/zzlaws_internal_store_b1.FnFirstAboveNeverEarlierForAHigherRevision", spec := "fnFirstAboveNeverEarlierForAHigherRevision", apart := false }
def FnFirstAboveNeverEarlierForAHigherRevisionSaid : Prop := fnFirstAboveNeverEarlierForAHigherRevisionRow.holds Try.pinned (OpenSpec.ofChange fnFirstAboveNeverEarlierForAHigherRevisionSpec)

/-- ITS FALSE NEIGHBOUR: 'it returns false'. Refute it at one input. -/
def fnFirstAboveNeverEarlierForAHigherRevisionWrong : ChangeSpec := { name := "fnFirstAboveNeverEarlierForAHigherRevision", fn := fun _ => fun
  | [d1, d2, d3, d4, d5] => { results := [.lit (.bool false)], args := [d1, d2, d3, d4, d5] }
  | _ => none }
def FnFirstAboveNeverEarlierForAHigherRevisionWrongFalsely : Prop := fnFirstAboveNeverEarlierForAHigherRevisionRow.holds Try.pinned (OpenSpec.ofChange fnFirstAboveNeverEarlierForAHigherRevisionWrong)

/-- 'zzlaws_internal_store_b1.FnRangeOfHoldsExactlyTheSpansKeysForASevenBitPrefixEnd': WHATEVER THE INPUT: true; the input reads as it did. -/
def fnRangeOfHoldsExactlyTheSpansKeysForASevenBitPrefixEndSpec : ChangeSpec := { name := "fnRangeOfHoldsExactlyTheSpansKeysForASevenBitPrefixEnd", fn := fun _ => fun
  | [d1, d2, d3, d4] => { results := [.lit (.bool true)], args := [d1, d2, d3, d4] }
  | _ => none }
def fnRangeOfHoldsExactlyTheSpansKeysForASevenBitPrefixEndRow : OpenClaim := { program := "qxb6603979a", sum := "c58c11f578b0a370a0c662db949b5728467baeb2cd0ddf7a0c6851c8e23d0d98", func := "example.com/quorumkeep/quorumkeep/zzlaws_internal_store_b1.FnRangeOfHoldsExactlyTheSpansKeysForASevenBitPrefixEnd", spec := "fnRangeOfHoldsExactlyTheSpansKeysForASevenBitPrefixEnd", apart := false }
def FnRangeOfHoldsExactlyTheSpansKeysForASevenBitPrefixEndSaid : Prop := fnRangeOfHoldsExactlyTheSpansKeysForASevenBitPrefixEndRow.holds Try.pinned (OpenSpec.ofChange fnRangeOfHoldsExactlyTheSpansKeysForASevenBitPrefixEndSpec)

/-- ITS FALSE NEIGHBOUR: 'it returns false'. Refute it at one input. -/
def fnRangeOfHoldsExactlyTheSpansKeysForASevenBitPrefixEndWrong : ChangeSpec := { name := "fnRangeOfHoldsExactlyTheSpansKeysForASevenBitPrefixEnd", fn := fun _ => fun
  | [d1, d2, d3, d4] => { results := [.lit (.bool false)], args := [d1, d2, d3, d4] }
  | _ => none }
def FnRangeOfHoldsExactlyTheSpansKeysForASevenBitPrefixEndWrongFalsely : Prop := fnRangeOfHoldsExactlyTheSpansKeysForASevenBitPrefixEndRow.holds Try.pinned (OpenSpec.ofChange fnRangeOfHoldsExactlyTheSpansKeysForASevenBitPrefixEndWrong)

/-- 'zzlaws_internal_store_b1.FnRangeOfStartsAtTheSpansLeastKey': WHATEVER THE INPUT: true; the input reads as it did. -/
def fnRangeOfStartsAtTheSpansLeastKeySpec : ChangeSpec := { name := "fnRangeOfStartsAtTheSpansLeastKey", fn := fun _ => fun
  | [d1, d2, d3, d4] => { results := [.lit (.bool true)], args := [d1, d2, d3, d4] }
  | _ => none }
def fnRangeOfStartsAtTheSpansLeastKeyRow : OpenClaim := { program := "qxb6603979a", sum := "c58c11f578b0a370a0c662db949b5728467baeb2cd0ddf7a0c6851c8e23d0d98", func := "example.com/quorumkeep/quorumkeep/zzlaws_internal_store_b1.FnRangeOfStartsAtTheSpansLeastKey", spec := "fnRangeOfStartsAtTheSpansLeastKey", apart := false }
def FnRangeOfStartsAtTheSpansLeastKeySaid : Prop := fnRangeOfStartsAtTheSpansLeastKeyRow.holds Try.pinned (OpenSpec.ofChange fnRangeOfStartsAtTheSpansLeastKeySpec)

/-- ITS FALSE NEIGHBOUR: 'it returns false'. Refute it at one input. -/
def fnRangeOfStartsAtTheSpansLeastKeyWrong : ChangeSpec := { name := "fnRangeOfStartsAtTheSpansLeastKey", fn := fun _ => fun
  | [d1, d2, d3, d4] => { results := [.lit (.bool false)], args := [d1, d2, d3, d4] }
  | _ => none }
def FnRangeOfStartsAtTheSpansLeastKeyWrongFalsely : Prop := fnRangeOfStartsAtTheSpansLeastKeyRow.holds Try.pinned (OpenSpec.ofChange fnRangeOfStartsAtTheSpansLeastKeyWrong)

/-- 'zzlaws_internal_store_b1.FnDropFirstTakesTheFirstOffATailOfTheSameChunks': WHATEVER THE INPUT: true; the input reads as it did. -/
def fnDropFirstTakesTheFirstOffATailOfTheSameChunksSpec : ChangeSpec := { name := "fnDropFirstTakesTheFirstOffATailOfTheSameChunks", fn := fun _ => fun
  | [d1, d2, d3, d4] => { results := [.lit (.bool true)], args := [d1, d2, d3, d4] }
  | _ => none }
def fnDropFirstTakesTheFirstOffATailOfTheSameChunksRow : OpenClaim := { program := "qxb6603979a", sum := "c58c11f578b0a370a0c662db949b5728467baeb2cd0ddf7a0c6851c8e23d0d98", func := "example.com/quorumkeep/quorumkeep/zzlaws_internal_store_b1.FnDropFirstTakesTheFirstOffATailOfTheSameChunks", spec := "fnDropFirstTakesTheFirstOffATailOfTheSameChunks", apart := false }
def FnDropFirstTakesTheFirstOffATailOfTheSameChunksSaid : Prop := fnDropFirstTakesTheFirstOffATailOfTheSameChunksRow.holds Try.pinned (OpenSpec.ofChange fnDropFirstTakesTheFirstOffATailOfTheSameChunksSpec)

/-- ITS FALSE NEIGHBOUR: 'it returns false'. Refute it at one input. -/
def fnDropFirstTakesTheFirstOffATailOfTheSameChunksWrong : ChangeSpec := { name := "fnDropFirstTakesTheFirstOffATailOfTheSameChunks", fn := fun _ => fun
  | [d1, d2, d3, d4] => { results := [.lit (.bool false)], args := [d1, d2, d3, d4] }
  | _ => none }
def FnDropFirstTakesTheFirstOffATailOfTheSameChunksWrongFalsely : Prop := fnDropFirstTakesTheFirstOffATailOfTheSameChunksRow.holds Try.pinned (OpenSpec.ofChange fnDropFirstTakesTheFirstOffATailOfTheSameChunksWrong)

end Rows
end Go.Proofs.Qxb6603979a

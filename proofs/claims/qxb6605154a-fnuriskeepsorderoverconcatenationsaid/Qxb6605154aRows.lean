/-
  No cell of these rows narrows 'for every input' (looked for: loops, veiled, ifaces, maps, wideKeys, modest, calm, conditions, laid).
  DERIVED. THE GIVEN ROWS OF THIS SEAT. 4 by the template 'for every input the law returns true; each argument reads behind the call as it read before'; 0 by the template 'total and deterministic' (their statements: Qxb6605154aTotals.lean).
  GIVEN WITH THE SEED: the statements are not yours to turn. If you find one false, say at which input.
  Laid BY PROGRAM, IN A SANDBOX (cutbox-rows.mjs): the forced cells as the released guide's own fill.sh prints them over the translation 3583c37cf0a2d3dd… (all of the seat's roots in one cut). By AI agents, Wed Nov 11 2026. No macro, syntax, notation, axiom, sorry.
-/
import Derived.Test.Qxb6605154aChecked
import GoSem.Claim
import GoSem.ClaimJoined
import GoSem.ClaimMapViews
import Derived.JoinedTies
import Derived.KernelRfl
namespace Go.Proofs.Qxb6605154a
/- THE CELL 'sum', in the pinned program and in every row, IS THE sha256 OF THE DUMP (.gsa) THAT Qxb6605154aProg.lean LOADS. Nothing in Lean hashes anything: it is a label: what it is worth is what the hold of that sum in a sandbox is worth. -/
noncomputable def Try.pinned : Pinned := { name := "qxb6605154a", sum := "3583c37cf0a2d3ddc653b5ef9a43001063ca3ad37236dff14b2106cc391b5606", checked := Try.checked }
namespace Rows
def none {H : Type} : Left H := { results := [], args := [] }

/-- 'zzlaws_internal_store_b1.FnURIsIsTheURIColumn': WHATEVER THE INPUT: true; the input reads as it did. -/
def fnURIsIsTheURIColumnSpec : ChangeSpec := { name := "fnURIsIsTheURIColumn", fn := fun _ => fun
  | [d] => { results := [.lit (.bool true)], args := [d] }
  | _ => none }
def fnURIsIsTheURIColumnRow : OpenClaim := { program := "qxb6605154a", sum := "3583c37cf0a2d3ddc653b5ef9a43001063ca3ad37236dff14b2106cc391b5606", func := "example.com/neti/neti/zzlaws_internal_store_b1.FnURIsIsTheURIColumn", spec := "fnURIsIsTheURIColumn", apart := false }
def FnURIsIsTheURIColumnSaid : Prop := fnURIsIsTheURIColumnRow.holds Try.pinned (OpenSpec.ofChange fnURIsIsTheURIColumnSpec)

/-- ITS FALSE NEIGHBOUR: 'it returns false'. Refute it at one input. -/
def fnURIsIsTheURIColumnWrong : ChangeSpec := { name := "fnURIsIsTheURIColumn", fn := fun _ => fun
  | [d] => { results := [.lit (.bool false)], args := [d] }
  | _ => none }
def FnURIsIsTheURIColumnWrongFalsely : Prop := fnURIsIsTheURIColumnRow.holds Try.pinned (OpenSpec.ofChange fnURIsIsTheURIColumnWrong)

/-- 'zzlaws_internal_store_b1.FnURIsKeepsOrderOverConcatenation': WHATEVER THE INPUT: true; the input reads as it did. -/
def fnURIsKeepsOrderOverConcatenationSpec : ChangeSpec := { name := "fnURIsKeepsOrderOverConcatenation", fn := fun _ => fun
  | [d1, d2] => { results := [.lit (.bool true)], args := [d1, d2] }
  | _ => none }
def fnURIsKeepsOrderOverConcatenationRow : OpenClaim := { program := "qxb6605154a", sum := "3583c37cf0a2d3ddc653b5ef9a43001063ca3ad37236dff14b2106cc391b5606", func := "example.com/neti/neti/zzlaws_internal_store_b1.FnURIsKeepsOrderOverConcatenation", spec := "fnURIsKeepsOrderOverConcatenation", apart := false }
def FnURIsKeepsOrderOverConcatenationSaid : Prop := fnURIsKeepsOrderOverConcatenationRow.holds Try.pinned (OpenSpec.ofChange fnURIsKeepsOrderOverConcatenationSpec)

/-- ITS FALSE NEIGHBOUR: 'it returns false'. Refute it at one input. -/
def fnURIsKeepsOrderOverConcatenationWrong : ChangeSpec := { name := "fnURIsKeepsOrderOverConcatenation", fn := fun _ => fun
  | [d1, d2] => { results := [.lit (.bool false)], args := [d1, d2] }
  | _ => none }
def FnURIsKeepsOrderOverConcatenationWrongFalsely : Prop := fnURIsKeepsOrderOverConcatenationRow.holds Try.pinned (OpenSpec.ofChange fnURIsKeepsOrderOverConcatenationWrong)

/-- 'zzlaws_internal_store_b1.FnRegisteredURIsSplicesKindBetweenQuotes': WHATEVER THE INPUT: true; the input reads as it did. -/
def fnRegisteredURIsSplicesKindBetweenQuotesSpec : ChangeSpec := { name := "fnRegisteredURIsSplicesKindBetweenQuotes", fn := fun _ => fun
  | [d] => { results := [.lit (.bool true)], args := [d] }
  | _ => none }
def fnRegisteredURIsSplicesKindBetweenQuotesRow : OpenClaim := { program := "qxb6605154a", sum := "3583c37cf0a2d3ddc653b5ef9a43001063ca3ad37236dff14b2106cc391b5606", func := "example.com/neti/neti/zzlaws_internal_store_b1.FnRegisteredURIsSplicesKindBetweenQuotes", spec := "fnRegisteredURIsSplicesKindBetweenQuotes", apart := false }
def FnRegisteredURIsSplicesKindBetweenQuotesSaid : Prop := fnRegisteredURIsSplicesKindBetweenQuotesRow.holds Try.pinned (OpenSpec.ofChange fnRegisteredURIsSplicesKindBetweenQuotesSpec)

/-- ITS FALSE NEIGHBOUR: 'it returns false'. Refute it at one input. -/
def fnRegisteredURIsSplicesKindBetweenQuotesWrong : ChangeSpec := { name := "fnRegisteredURIsSplicesKindBetweenQuotes", fn := fun _ => fun
  | [d] => { results := [.lit (.bool false)], args := [d] }
  | _ => none }
def FnRegisteredURIsSplicesKindBetweenQuotesWrongFalsely : Prop := fnRegisteredURIsSplicesKindBetweenQuotesRow.holds Try.pinned (OpenSpec.ofChange fnRegisteredURIsSplicesKindBetweenQuotesWrong)

/-- 'zzlaws_internal_store_b1.FnRegisteredURIsIsInjective': WHATEVER THE INPUT: true; the input reads as it did. -/
def fnRegisteredURIsIsInjectiveSpec : ChangeSpec := { name := "fnRegisteredURIsIsInjective", fn := fun _ => fun
  | [d1, d2] => { results := [.lit (.bool true)], args := [d1, d2] }
  | _ => none }
def fnRegisteredURIsIsInjectiveRow : OpenClaim := { program := "qxb6605154a", sum := "3583c37cf0a2d3ddc653b5ef9a43001063ca3ad37236dff14b2106cc391b5606", func := "example.com/neti/neti/zzlaws_internal_store_b1.FnRegisteredURIsIsInjective", spec := "fnRegisteredURIsIsInjective", apart := false }
def FnRegisteredURIsIsInjectiveSaid : Prop := fnRegisteredURIsIsInjectiveRow.holds Try.pinned (OpenSpec.ofChange fnRegisteredURIsIsInjectiveSpec)

/-- ITS FALSE NEIGHBOUR: 'it returns false'. Refute it at one input. -/
def fnRegisteredURIsIsInjectiveWrong : ChangeSpec := { name := "fnRegisteredURIsIsInjective", fn := fun _ => fun
  | [d1, d2] => { results := [.lit (.bool false)], args := [d1, d2] }
  | _ => none }
def FnRegisteredURIsIsInjectiveWrongFalsely : Prop := fnRegisteredURIsIsInjectiveRow.holds Try.pinned (OpenSpec.ofChange fnRegisteredURIsIsInjectiveWrong)

end Rows
end Go.Proofs.Qxb6605154a

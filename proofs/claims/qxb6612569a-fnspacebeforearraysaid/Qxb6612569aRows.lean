/-
  No cell of these rows narrows 'for every input' (looked for: loops, veiled, ifaces, maps, wideKeys, modest, calm, conditions, laid).
  DERIVED. THE GIVEN ROWS OF THIS SEAT. 4 by the template 'for every input the law returns true; each argument reads behind the call as it read before'; 0 by the template 'total and deterministic' (their statements: Qxb6612569aTotals.lean).
  GIVEN WITH THE SEED: the statements are not yours to turn. If you find one false, say at which input.
  Laid BY PROGRAM, IN A SANDBOX (cutbox-rows.mjs): the forced cells as the released guide's own fill.sh prints them over the translation 05e14ca47961c704… (all of the seat's roots in one cut). By AI agents, Wed Nov 11 2026. No macro, syntax, notation, axiom, sorry.
-/
import Derived.Test.Qxb6612569aChecked
import GoSem.Claim
import GoSem.ClaimJoined
import GoSem.ClaimMapViews
import Derived.JoinedTies
import Derived.KernelRfl
namespace Go.Proofs.Qxb6612569a
/- THE CELL 'sum', in the pinned program and in every row, IS THE sha256 OF THE DUMP (.gsa) THAT Qxb6612569aProg.lean LOADS. Nothing in Lean hashes anything: it is a label: what it is worth is what the hold of that sum in a sandbox is worth. -/
noncomputable def Try.pinned : Pinned := { name := "qxb6612569a", sum := "05e14ca47961c70414358bd9868d800e2e31f6968d7e95fe15be39b4fc15b479", checked := Try.checked }
namespace Rows
def none {H : Type} : Left H := { results := [], args := [] }

/-- 'zzlaws_internal_envelope_b1.FnDigitSpaceCounts': WHATEVER THE INPUT: true; the input reads as it did. -/
def fnDigitSpaceCountsSpec : ChangeSpec := { name := "fnDigitSpaceCounts", fn := fun _ => fun
  | [d] => { results := [.lit (.bool true)], args := [d] }
  | _ => none }
def fnDigitSpaceCountsRow : OpenClaim := { program := "qxb6612569a", sum := "05e14ca47961c70414358bd9868d800e2e31f6968d7e95fe15be39b4fc15b479", func := "example.com/wayline/wayline/zzlaws_internal_envelope_b1.FnDigitSpaceCounts", spec := "fnDigitSpaceCounts", apart := false }
def FnDigitSpaceCountsSaid : Prop := fnDigitSpaceCountsRow.holds Try.pinned (OpenSpec.ofChange fnDigitSpaceCountsSpec)

/-- ITS FALSE NEIGHBOUR: 'it returns false'. Refute it at one input. -/
def fnDigitSpaceCountsWrong : ChangeSpec := { name := "fnDigitSpaceCounts", fn := fun _ => fun
  | [d] => { results := [.lit (.bool false)], args := [d] }
  | _ => none }
def FnDigitSpaceCountsWrongFalsely : Prop := fnDigitSpaceCountsRow.holds Try.pinned (OpenSpec.ofChange fnDigitSpaceCountsWrong)

/-- 'zzlaws_internal_envelope_b1.FnSpaceBeforeArray': WHATEVER THE INPUT: true; the input reads as it did. -/
def fnSpaceBeforeArraySpec : ChangeSpec := { name := "fnSpaceBeforeArray", fn := fun _ => fun
  | [d] => { results := [.lit (.bool true)], args := [d] }
  | _ => none }
def fnSpaceBeforeArrayRow : OpenClaim := { program := "qxb6612569a", sum := "05e14ca47961c70414358bd9868d800e2e31f6968d7e95fe15be39b4fc15b479", func := "example.com/wayline/wayline/zzlaws_internal_envelope_b1.FnSpaceBeforeArray", spec := "fnSpaceBeforeArray", inPlace := ["internal/bytealg.IndexByte"], unfollowed := true, recurses := true, apart := false }
def FnSpaceBeforeArraySaid : Prop := fnSpaceBeforeArrayRow.holds Try.pinned (OpenSpec.ofChange fnSpaceBeforeArraySpec)

/-- ITS FALSE NEIGHBOUR: 'it returns false'. Refute it at one input. -/
def fnSpaceBeforeArrayWrong : ChangeSpec := { name := "fnSpaceBeforeArray", fn := fun _ => fun
  | [d] => { results := [.lit (.bool false)], args := [d] }
  | _ => none }
def FnSpaceBeforeArrayWrongFalsely : Prop := fnSpaceBeforeArrayRow.holds Try.pinned (OpenSpec.ofChange fnSpaceBeforeArrayWrong)

/-- 'zzlaws_internal_envelope_b1.FnElementsMatchesModel': WHATEVER THE INPUT: true; the input reads as it did. -/
def fnElementsMatchesModelSpec : ChangeSpec := { name := "fnElementsMatchesModel", fn := fun _ => fun
  | [d] => { results := [.lit (.bool true)], args := [d] }
  | _ => none }
def fnElementsMatchesModelRow : OpenClaim := { program := "qxb6612569a", sum := "05e14ca47961c70414358bd9868d800e2e31f6968d7e95fe15be39b4fc15b479", func := "example.com/wayline/wayline/zzlaws_internal_envelope_b1.FnElementsMatchesModel", spec := "fnElementsMatchesModel", inPlace := ["internal/bytealg.IndexByte"], unfollowed := true, recurses := true, apart := false }
def FnElementsMatchesModelSaid : Prop := fnElementsMatchesModelRow.holds Try.pinned (OpenSpec.ofChange fnElementsMatchesModelSpec)

/-- ITS FALSE NEIGHBOUR: 'it returns false'. Refute it at one input. -/
def fnElementsMatchesModelWrong : ChangeSpec := { name := "fnElementsMatchesModel", fn := fun _ => fun
  | [d] => { results := [.lit (.bool false)], args := [d] }
  | _ => none }
def FnElementsMatchesModelWrongFalsely : Prop := fnElementsMatchesModelRow.holds Try.pinned (OpenSpec.ofChange fnElementsMatchesModelWrong)

/-- 'zzlaws_internal_envelope_b1.FnElementsStopsWhenAsked': WHATEVER THE INPUT: true; the input reads as it did. -/
def fnElementsStopsWhenAskedSpec : ChangeSpec := { name := "fnElementsStopsWhenAsked", fn := fun _ => fun
  | [d1, d2] => { results := [.lit (.bool true)], args := [d1, d2] }
  | _ => none }
def fnElementsStopsWhenAskedRow : OpenClaim := { program := "qxb6612569a", sum := "05e14ca47961c70414358bd9868d800e2e31f6968d7e95fe15be39b4fc15b479", func := "example.com/wayline/wayline/zzlaws_internal_envelope_b1.FnElementsStopsWhenAsked", spec := "fnElementsStopsWhenAsked", inPlace := ["internal/bytealg.IndexByte"], unfollowed := true, recurses := true, apart := false }
def FnElementsStopsWhenAskedSaid : Prop := fnElementsStopsWhenAskedRow.holds Try.pinned (OpenSpec.ofChange fnElementsStopsWhenAskedSpec)

/-- ITS FALSE NEIGHBOUR: 'it returns false'. Refute it at one input. -/
def fnElementsStopsWhenAskedWrong : ChangeSpec := { name := "fnElementsStopsWhenAsked", fn := fun _ => fun
  | [d1, d2] => { results := [.lit (.bool false)], args := [d1, d2] }
  | _ => none }
def FnElementsStopsWhenAskedWrongFalsely : Prop := fnElementsStopsWhenAskedRow.holds Try.pinned (OpenSpec.ofChange fnElementsStopsWhenAskedWrong)

end Rows
end Go.Proofs.Qxb6612569a

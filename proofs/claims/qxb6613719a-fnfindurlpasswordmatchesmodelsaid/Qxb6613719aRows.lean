/-
  No cell of these rows narrows 'for every input' (looked for: loops, veiled, ifaces, maps, wideKeys, modest, calm, conditions, laid).
  DERIVED. THE GIVEN ROWS OF THIS SEAT. 6 by the template 'for every input the law returns true; each argument reads behind the call as it read before'; 0 by the template 'total and deterministic' (their statements: Qxb6613719aTotals.lean).
  GIVEN WITH THE SEED: the statements are not yours to turn. If you find one false, say at which input.
  Laid BY PROGRAM, IN A SANDBOX (cutbox-rows.mjs): the forced cells as the released guide's own fill.sh prints them over the translation cbf6840fcc1564c8… (all of the seat's roots in one cut). By AI agents, Wed Nov 11 2026. No macro, syntax, notation, axiom, sorry.
-/
import Derived.Test.Qxb6613719aChecked
import GoSem.Claim
import GoSem.ClaimJoined
import GoSem.ClaimMapViews
import Derived.JoinedTies
import Derived.KernelRfl
namespace Go.Proofs.Qxb6613719a
/- THE CELL 'sum', in the pinned program and in every row, IS THE sha256 OF THE DUMP (.gsa) THAT Qxb6613719aProg.lean LOADS. Nothing in Lean hashes anything: it is a label: what it is worth is what the hold of that sum in a sandbox is worth. -/
noncomputable def Try.pinned : Pinned := { name := "qxb6613719a", sum := "cbf6840fcc1564c8c99b65db4bb400659d78d0dc10b0d98431ca73bcca75c6e1", checked := Try.checked }
namespace Rows
def none {H : Type} : Left H := { results := [], args := [] }

/-- 'zzlaws_internal_redact_b1.FnFindURLPasswordMatchesModel': WHATEVER THE INPUT: true; the input reads as it did. -/
def fnFindURLPasswordMatchesModelSpec : ChangeSpec := { name := "fnFindURLPasswordMatchesModel", fn := fun _ => fun
  | [d1, d2] => { results := [.lit (.bool true)], args := [d1, d2] }
  | _ => none }
def fnFindURLPasswordMatchesModelRow : OpenClaim := { program := "qxb6613719a", sum := "cbf6840fcc1564c8c99b65db4bb400659d78d0dc10b0d98431ca73bcca75c6e1", func := "example.com/blotline/blotline/zzlaws_internal_redact_b1.FnFindURLPasswordMatchesModel", spec := "fnFindURLPasswordMatchesModel", inPlace := ["internal/bytealg.IndexByte"], unfollowed := true, recurses := true, apart := false }
def FnFindURLPasswordMatchesModelSaid : Prop := fnFindURLPasswordMatchesModelRow.holds Try.pinned (OpenSpec.ofChange fnFindURLPasswordMatchesModelSpec)

/-- ITS FALSE NEIGHBOUR: 'it returns false'. Refute it at one input. -/
def fnFindURLPasswordMatchesModelWrong : ChangeSpec := { name := "fnFindURLPasswordMatchesModel", fn := fun _ => fun
  | [d1, d2] => { results := [.lit (.bool false)], args := [d1, d2] }
  | _ => none }
def FnFindURLPasswordMatchesModelWrongFalsely : Prop := fnFindURLPasswordMatchesModelRow.holds Try.pinned (OpenSpec.ofChange fnFindURLPasswordMatchesModelWrong)

/-- 'zzlaws_internal_redact_b1.FnFindURLPasswordShiftsPastSpace': WHATEVER THE INPUT: true; the input reads as it did. -/
def fnFindURLPasswordShiftsPastSpaceSpec : ChangeSpec := { name := "fnFindURLPasswordShiftsPastSpace", fn := fun _ => fun
  | [d1, d2, d3] => { results := [.lit (.bool true)], args := [d1, d2, d3] }
  | _ => none }
def fnFindURLPasswordShiftsPastSpaceRow : OpenClaim := { program := "qxb6613719a", sum := "cbf6840fcc1564c8c99b65db4bb400659d78d0dc10b0d98431ca73bcca75c6e1", func := "example.com/blotline/blotline/zzlaws_internal_redact_b1.FnFindURLPasswordShiftsPastSpace", spec := "fnFindURLPasswordShiftsPastSpace", inPlace := ["internal/bytealg.IndexByte"], unfollowed := true, recurses := true, apart := false }
def FnFindURLPasswordShiftsPastSpaceSaid : Prop := fnFindURLPasswordShiftsPastSpaceRow.holds Try.pinned (OpenSpec.ofChange fnFindURLPasswordShiftsPastSpaceSpec)

/-- ITS FALSE NEIGHBOUR: 'it returns false'. Refute it at one input. -/
def fnFindURLPasswordShiftsPastSpaceWrong : ChangeSpec := { name := "fnFindURLPasswordShiftsPastSpace", fn := fun _ => fun
  | [d1, d2, d3] => { results := [.lit (.bool false)], args := [d1, d2, d3] }
  | _ => none }
def FnFindURLPasswordShiftsPastSpaceWrongFalsely : Prop := fnFindURLPasswordShiftsPastSpaceRow.holds Try.pinned (OpenSpec.ofChange fnFindURLPasswordShiftsPastSpaceWrong)

/-- 'zzlaws_internal_redact_b1.FnIsBasicByteIsBase64DigitInAnyCase': WHATEVER THE INPUT: true; the input reads as it did. -/
def fnIsBasicByteIsBase64DigitInAnyCaseSpec : ChangeSpec := { name := "fnIsBasicByteIsBase64DigitInAnyCase", fn := fun _ => fun
  | [d] => { results := [.lit (.bool true)], args := [d] }
  | _ => none }
def fnIsBasicByteIsBase64DigitInAnyCaseRow : OpenClaim := { program := "qxb6613719a", sum := "cbf6840fcc1564c8c99b65db4bb400659d78d0dc10b0d98431ca73bcca75c6e1", func := "example.com/blotline/blotline/zzlaws_internal_redact_b1.FnIsBasicByteIsBase64DigitInAnyCase", spec := "fnIsBasicByteIsBase64DigitInAnyCase", apart := false }
def FnIsBasicByteIsBase64DigitInAnyCaseSaid : Prop := fnIsBasicByteIsBase64DigitInAnyCaseRow.holds Try.pinned (OpenSpec.ofChange fnIsBasicByteIsBase64DigitInAnyCaseSpec)

/-- ITS FALSE NEIGHBOUR: 'it returns false'. Refute it at one input. -/
def fnIsBasicByteIsBase64DigitInAnyCaseWrong : ChangeSpec := { name := "fnIsBasicByteIsBase64DigitInAnyCase", fn := fun _ => fun
  | [d] => { results := [.lit (.bool false)], args := [d] }
  | _ => none }
def FnIsBasicByteIsBase64DigitInAnyCaseWrongFalsely : Prop := fnIsBasicByteIsBase64DigitInAnyCaseRow.holds Try.pinned (OpenSpec.ofChange fnIsBasicByteIsBase64DigitInAnyCaseWrong)

/-- 'zzlaws_internal_redact_b1.FnBasicRunIsLongestBase64Prefix': WHATEVER THE INPUT: true; the input reads as it did. -/
def fnBasicRunIsLongestBase64PrefixSpec : ChangeSpec := { name := "fnBasicRunIsLongestBase64Prefix", fn := fun _ => fun
  | [d1, d2] => { results := [.lit (.bool true)], args := [d1, d2] }
  | _ => none }
def fnBasicRunIsLongestBase64PrefixRow : OpenClaim := { program := "qxb6613719a", sum := "cbf6840fcc1564c8c99b65db4bb400659d78d0dc10b0d98431ca73bcca75c6e1", func := "example.com/blotline/blotline/zzlaws_internal_redact_b1.FnBasicRunIsLongestBase64Prefix", spec := "fnBasicRunIsLongestBase64Prefix", unfollowed := true, recurses := true, apart := false }
def FnBasicRunIsLongestBase64PrefixSaid : Prop := fnBasicRunIsLongestBase64PrefixRow.holds Try.pinned (OpenSpec.ofChange fnBasicRunIsLongestBase64PrefixSpec)

/-- ITS FALSE NEIGHBOUR: 'it returns false'. Refute it at one input. -/
def fnBasicRunIsLongestBase64PrefixWrong : ChangeSpec := { name := "fnBasicRunIsLongestBase64Prefix", fn := fun _ => fun
  | [d1, d2] => { results := [.lit (.bool false)], args := [d1, d2] }
  | _ => none }
def FnBasicRunIsLongestBase64PrefixWrongFalsely : Prop := fnBasicRunIsLongestBase64PrefixRow.holds Try.pinned (OpenSpec.ofChange fnBasicRunIsLongestBase64PrefixWrong)

/-- 'zzlaws_internal_redact_b1.FnIsUpperIsWhatToLowerChanges': WHATEVER THE INPUT: true; the input reads as it did. -/
def fnIsUpperIsWhatToLowerChangesSpec : ChangeSpec := { name := "fnIsUpperIsWhatToLowerChanges", fn := fun _ => fun
  | [d] => { results := [.lit (.bool true)], args := [d] }
  | _ => none }
def fnIsUpperIsWhatToLowerChangesRow : OpenClaim := { program := "qxb6613719a", sum := "cbf6840fcc1564c8c99b65db4bb400659d78d0dc10b0d98431ca73bcca75c6e1", func := "example.com/blotline/blotline/zzlaws_internal_redact_b1.FnIsUpperIsWhatToLowerChanges", spec := "fnIsUpperIsWhatToLowerChanges", apart := false }
def FnIsUpperIsWhatToLowerChangesSaid : Prop := fnIsUpperIsWhatToLowerChangesRow.holds Try.pinned (OpenSpec.ofChange fnIsUpperIsWhatToLowerChangesSpec)

/-- ITS FALSE NEIGHBOUR: 'it returns false'. Refute it at one input. -/
def fnIsUpperIsWhatToLowerChangesWrong : ChangeSpec := { name := "fnIsUpperIsWhatToLowerChanges", fn := fun _ => fun
  | [d] => { results := [.lit (.bool false)], args := [d] }
  | _ => none }
def FnIsUpperIsWhatToLowerChangesWrongFalsely : Prop := fnIsUpperIsWhatToLowerChangesRow.holds Try.pinned (OpenSpec.ofChange fnIsUpperIsWhatToLowerChangesWrong)

/-- 'zzlaws_internal_redact_b1.FnIsUpperFoldsLikeEqualFold': WHATEVER THE INPUT: true; the input reads as it did. -/
def fnIsUpperFoldsLikeEqualFoldSpec : ChangeSpec := { name := "fnIsUpperFoldsLikeEqualFold", fn := fun _ => fun
  | [d] => { results := [.lit (.bool true)], args := [d] }
  | _ => none }
def fnIsUpperFoldsLikeEqualFoldRow : OpenClaim := { program := "qxb6613719a", sum := "cbf6840fcc1564c8c99b65db4bb400659d78d0dc10b0d98431ca73bcca75c6e1", func := "example.com/blotline/blotline/zzlaws_internal_redact_b1.FnIsUpperFoldsLikeEqualFold", spec := "fnIsUpperFoldsLikeEqualFold", apart := false }
def FnIsUpperFoldsLikeEqualFoldSaid : Prop := fnIsUpperFoldsLikeEqualFoldRow.holds Try.pinned (OpenSpec.ofChange fnIsUpperFoldsLikeEqualFoldSpec)

/-- ITS FALSE NEIGHBOUR: 'it returns false'. Refute it at one input. -/
def fnIsUpperFoldsLikeEqualFoldWrong : ChangeSpec := { name := "fnIsUpperFoldsLikeEqualFold", fn := fun _ => fun
  | [d] => { results := [.lit (.bool false)], args := [d] }
  | _ => none }
def FnIsUpperFoldsLikeEqualFoldWrongFalsely : Prop := fnIsUpperFoldsLikeEqualFoldRow.holds Try.pinned (OpenSpec.ofChange fnIsUpperFoldsLikeEqualFoldWrong)

end Rows
end Go.Proofs.Qxb6613719a

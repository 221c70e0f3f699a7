/-
  NARROWER THAN 'FOR EVERY INPUT', by the rows' own cells (each row's printed sentence says how): FnLinkDeliverWithNoExchangeCarriesEachFrameOnce: laid.
  DERIVED. THE GIVEN ROWS OF THIS SEAT. 1 by the template 'for every input the law returns true; each argument reads behind the call as it read before'; 0 by the template 'total and deterministic' (their statements: Qxb6614845aFmtTotals.lean).
  GIVEN WITH THE SEED: the statements are not yours to turn. If you find one false, say at which input.
  Laid BY PROGRAM, IN A SANDBOX (cutbox-rows.mjs): the forced cells as the released guide's own fill.sh prints them over the translation 4daac07e3020df38… (all of the seat's roots in one cut). By AI agents, Wed Nov 11 2026. No macro, syntax, notation, axiom, sorry.
-/
import Derived.Test.Qxb6614845aFmtChecked
import GoSem.Claim
import GoSem.ClaimJoined
import GoSem.ClaimMapViews
import Derived.JoinedTies
import Derived.KernelRfl
namespace Go.Proofs.Qxb6614845aFmt
/- THE CELL 'sum', in the pinned program and in every row, IS THE sha256 OF THE DUMP (.gsa) THAT Qxb6614845aFmtProg.lean LOADS. Nothing in Lean hashes anything: it is a label: what it is worth is what the hold of that sum in a sandbox is worth. -/
noncomputable def Tryf.pinned : Pinned := { name := "qxb6614845afmt", sum := "4daac07e3020df3865ca3a8435544ea3febb7522b1b6e27ea8f1f5fc7dfb1383", checked := Tryf.checked }
namespace Rows
def none {H : Type} : Left H := { results := [], args := [] }

/- WHAT THE LISTED PACKAGE-LEVEL VARIABLES READ AS WHEN THE CALL BEGINS. Each datum BY PROGRAM (the guide's laid-datum.mjs) off the statement by which the dump's own 'gosem.cut.vars' lays the variable. In a bare row this is a premise. The card (Qxb6614845aFmtCards.lean) ties it to the program's text. -/
def laid_example_com_trunkline_trunkline_engine_t7Expired {H : Type} : DataW H := .agg [.lit (.int .u8 102), .lit (.int .u8 2)]
def laid_example_com_trunkline_trunkline_engine_t35Expired {H : Type} : DataW H := .agg [.lit (.int .u8 28), .lit (.int .u8 4)]
def laid_example_com_trunkline_trunkline_engine_t9Expired {H : Type} : DataW H := .agg [.lit (.int .u8 19), .lit (.int .u8 2)]

/-- 'zzlaws_engine_b1.FnLinkDeliverWithNoExchangeCarriesEachFrameOnce': WHATEVER THE INPUT: true; the input reads as it did. -/
def fnLinkDeliverWithNoExchangeCarriesEachFrameOnceSpec : ChangeSpec := { name := "fnLinkDeliverWithNoExchangeCarriesEachFrameOnce", vars := ["example.com/trunkline/trunkline/engine.t35Expired", "example.com/trunkline/trunkline/engine.t7Expired", "example.com/trunkline/trunkline/engine.t9Expired"], fn := fun _ => fun
  | [d, g1, g2, g3] => { results := [.lit (.bool true)], args := [d], vars := [g1, g2, g3] }
  | _ => none }
def fnLinkDeliverWithNoExchangeCarriesEachFrameOnceRow : OpenClaim := { program := "qxb6614845afmt", sum := "4daac07e3020df3865ca3a8435544ea3febb7522b1b6e27ea8f1f5fc7dfb1383", func := "example.com/trunkline/trunkline/zzlaws_engine_b1.FnLinkDeliverWithNoExchangeCarriesEachFrameOnce", spec := "fnLinkDeliverWithNoExchangeCarriesEachFrameOnce", stops := ["fmt.errorf", "fmt.Sprintf, its operands' methods called"], inPlace := ["fmt.errorf", "fmt.Sprintf", "internal/bytealg.IndexByteString", "internal/bytealg.IndexString"], unfollowed := true, recurses := true, named := ["encoding/binary.LittleEndian", "internal/bytealg.MaxLen", "example.com/trunkline/trunkline/engine.t35Expired", "example.com/trunkline/trunkline/engine.t7Expired", "example.com/trunkline/trunkline/engine.t9Expired"], plainKeys := false, apart := false, laid := [("example.com/trunkline/trunkline/engine.t7Expired", laid_example_com_trunkline_trunkline_engine_t7Expired), ("example.com/trunkline/trunkline/engine.t35Expired", laid_example_com_trunkline_trunkline_engine_t35Expired), ("example.com/trunkline/trunkline/engine.t9Expired", laid_example_com_trunkline_trunkline_engine_t9Expired)] }
/-- NO THEOREM (fmt's text is open here; it may be false): for the released tool's asking of the row's closed facts alone. THE STATEMENT IS 'FnLinkDeliverWithNoExchangeCarriesEachFrameOnceToldSaid' (Qxb6614845aFmtCards.lean). -/
def FnLinkDeliverWithNoExchangeCarriesEachFrameOnceFormAsk : Prop := fnLinkDeliverWithNoExchangeCarriesEachFrameOnceRow.holds Tryf.pinned (OpenSpec.ofChange fnLinkDeliverWithNoExchangeCarriesEachFrameOnceSpec)

/-- ITS FALSE NEIGHBOUR: 'it returns false'. Refute it at one input. -/
def fnLinkDeliverWithNoExchangeCarriesEachFrameOnceWrong : ChangeSpec := { name := "fnLinkDeliverWithNoExchangeCarriesEachFrameOnce", vars := ["example.com/trunkline/trunkline/engine.t35Expired", "example.com/trunkline/trunkline/engine.t7Expired", "example.com/trunkline/trunkline/engine.t9Expired"], fn := fun _ => fun
  | [d, g1, g2, g3] => { results := [.lit (.bool false)], args := [d], vars := [g1, g2, g3] }
  | _ => none }
def FnLinkDeliverWithNoExchangeCarriesEachFrameOnceWrongFormAsk : Prop := fnLinkDeliverWithNoExchangeCarriesEachFrameOnceRow.holds Tryf.pinned (OpenSpec.ofChange fnLinkDeliverWithNoExchangeCarriesEachFrameOnceWrong)

end Rows
end Go.Proofs.Qxb6614845aFmt

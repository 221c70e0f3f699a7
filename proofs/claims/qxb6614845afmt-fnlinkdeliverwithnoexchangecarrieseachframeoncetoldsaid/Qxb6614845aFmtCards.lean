/-
  DERIVED. GIVEN WITH THE SEED: THE CARDS: each row of Qxb6614845aFmtRows.lean that lists a variable, with what it lists TIED to the program's text (the seventh form; the later family's looks); each row that meets fmt, with fmt's text TOLD by the authors' own Lean function (tested against real Go, not proved from fmt's source: count such statements apart). THE CARD IS WHAT COUNTS. Prove the row's statement (the work); the ties are given (Qxb6614845aFmtTie.lean); close each card by the builder's one call (the guide's Derived/Test/ToyasCard.lean, 'card_holds'). Laid BY PROGRAM, IN A SANDBOX (cutbox-door.mjs). By AI agents, Wed Nov 11 2026. No macro, syntax, notation, axiom, sorry.
-/
import Derived.Test.Qxb6614845aFmtRows
import GoSem.ClaimSeven
namespace Go.Proofs.Qxb6614845aFmt
namespace Rows

/-- THE TOLD AND TIED CARD OF 'zzlaws_engine_b1.FnLinkDeliverWithNoExchangeCarriesEachFrameOnce'. -/
def fnLinkDeliverWithNoExchangeCarriesEachFrameOnceCard : Claim7 := { stood := { row := fnLinkDeliverWithNoExchangeCarriesEachFrameOnceRow, standIns := [], harness := (true, "df79c96586402a4f7bac39e5d88891f316bc8d81031c0d0777cfc88b6821d646"), looks := false }, told := true, laidByText := true, laidKinds := [.data, .data, .data], laidTests := true, laidLooks := .later, goes := false }
def FnLinkDeliverWithNoExchangeCarriesEachFrameOnceToldSaid : Prop := Claim7.holds Tryf.pinned (.plain (OpenSpec.ofChange fnLinkDeliverWithNoExchangeCarriesEachFrameOnceSpec)) fnLinkDeliverWithNoExchangeCarriesEachFrameOnceCard
/-- ITS FALSE NEIGHBOUR. Refute it at one input. -/
def FnLinkDeliverWithNoExchangeCarriesEachFrameOnceToldWrongFalsely : Prop := Claim7.holds Tryf.pinned (.plain (OpenSpec.ofChange fnLinkDeliverWithNoExchangeCarriesEachFrameOnceWrong)) fnLinkDeliverWithNoExchangeCarriesEachFrameOnceCard
end Rows
end Go.Proofs.Qxb6614845aFmt

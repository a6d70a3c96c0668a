/-
  DERIVED. GIVEN WITH THE SEED: THE CARDS: each row of YbulkcobyFmtRows.lean that lists a variable, with what it lists TIED to the program's text (the seventh form; the later family's looks); each row that meets fmt, with fmt's text TOLD by the authors' own Lean function (tested against real Go, not proved from fmt's source: count such statements apart). THE CARD IS WHAT COUNTS. Prove the row's statement (the work); the ties are given (YbulkcobyFmtTie.lean); close each card by the builder's one call (the guide's Derived/Test/ToyasCard.lean, 'card_holds'). Laid BY PROGRAM, IN A SANDBOX (cutbox-door.mjs). By AI agents, Wed Nov 11 2026. No macro, syntax, notation, axiom, sorry.
-/
import Derived.Test.YbulkcobyFmtRows
import GoSem.ClaimSeven
namespace Go.Proofs.YbulkcobyFmt
namespace Rows

/-- THE TOLD AND TIED CARD OF 'tallyfold.LawS4496BValue'. -/
def lawS4496BValueCard : Claim7 := { stood := { row := lawS4496BValueRow, standIns := [], harness := (true, "6245791ac38b3ab33fe67a688397d6ea5eb713053d60dae82daccb3fae61ce09"), looks := true }, told := true, laidByText := true, laidKinds := [.data, .data, .widerDeep, .widerDeep, .data, .data, .data, .data, .data, .sentinel, .sentinel, .pinned, .pinned], laidTests := true, laidLooks := .later, goes := false }
def LawS4496BValueToldSaid : Prop := Claim7.holds Ybaf.pinned (.plain (OpenSpec.ofChange lawS4496BValueSpec)) lawS4496BValueCard
/-- ITS FALSE NEIGHBOUR. Refute it at one input. -/
def LawS4496BValueToldWrongFalsely : Prop := Claim7.holds Ybaf.pinned (.plain (OpenSpec.ofChange lawS4496BValueWrong)) lawS4496BValueCard

/-- THE TOLD AND TIED CARD OF 'tallyfold.LawS4496BRange'. -/
def lawS4496BRangeCard : Claim7 := { stood := { row := lawS4496BRangeRow, standIns := [], harness := (true, "6245791ac38b3ab33fe67a688397d6ea5eb713053d60dae82daccb3fae61ce09"), looks := true }, told := true, laidByText := true, laidKinds := [.data, .data, .widerDeep, .widerDeep, .data, .data, .data, .data, .data, .sentinel, .sentinel, .pinned, .pinned], laidTests := true, laidLooks := .later, goes := false }
def LawS4496BRangeToldSaid : Prop := Claim7.holds Ybaf.pinned (.plain (OpenSpec.ofChange lawS4496BRangeSpec)) lawS4496BRangeCard
/-- ITS FALSE NEIGHBOUR. Refute it at one input. -/
def LawS4496BRangeToldWrongFalsely : Prop := Claim7.holds Ybaf.pinned (.plain (OpenSpec.ofChange lawS4496BRangeWrong)) lawS4496BRangeCard

/-- THE TOLD CARD OF 'tallyfold.LawS4496CApply'. -/
def lawS4496CApplyCard : Claim7 := { stood := { row := lawS4496CApplyRow, standIns := [], harness := (true, "6245791ac38b3ab33fe67a688397d6ea5eb713053d60dae82daccb3fae61ce09"), looks := true }, told := true, goes := false }
def LawS4496CApplyToldSaid : Prop := Claim7.holds Ybaf.pinned (.plain (OpenSpec.ofChange lawS4496CApplySpec)) lawS4496CApplyCard
/-- ITS FALSE NEIGHBOUR. Refute it at one input. -/
def LawS4496CApplyToldWrongFalsely : Prop := Claim7.holds Ybaf.pinned (.plain (OpenSpec.ofChange lawS4496CApplyWrong)) lawS4496CApplyCard
end Rows
end Go.Proofs.YbulkcobyFmt

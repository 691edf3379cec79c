/-
  DERIVED. GIVEN WITH THE SEED: THE CARDS: each row of YbulkdbksFmtRows.lean that lists a variable, with what it lists TIED to the program's text (the seventh form; the later family's looks); each row that meets fmt, with fmt's text TOLD by the authors' own Lean function (tested against real Go, not proved from fmt's source: count such statements apart). THE CARD IS WHAT COUNTS. Prove the row's statement (the work); the ties are given (YbulkdbksFmtTie.lean); close each card by the builder's one call (the guide's Derived/Test/ToyasCard.lean, 'card_holds'). Laid BY PROGRAM, IN A SANDBOX (cutbox-door.mjs). By AI agents, Wed Nov 11 2026. No macro, syntax, notation, axiom, sorry.
-/
import Derived.Test.YbulkdbksFmtRows
import GoSem.ClaimSeven
namespace Go.Proofs.YbulkdbksFmt
namespace Rows

/-- THE TOLD CARD OF 'bloom.LawS5140AExact'. -/
def lawS5140AExactCard : Claim7 := { stood := { row := lawS5140AExactRow, standIns := [], harness := (true, "b1d18bc1f185f94e8e4b5de045ebbf175e3287c32bcba57a700c8137aebba999"), looks := false }, told := true, goes := false }
def LawS5140AExactToldSaid : Prop := Claim7.holds Ybaf.pinned (.plain (OpenSpec.ofChange lawS5140AExactSpec)) lawS5140AExactCard
/-- ITS FALSE NEIGHBOUR. Refute it at one input. -/
def LawS5140AExactToldWrongFalsely : Prop := Claim7.holds Ybaf.pinned (.plain (OpenSpec.ofChange lawS5140AExactWrong)) lawS5140AExactCard

/-- THE TOLD CARD OF 'bloom.LawS5140ACover'. -/
def lawS5140ACoverCard : Claim7 := { stood := { row := lawS5140ACoverRow, standIns := [], harness := (true, "b1d18bc1f185f94e8e4b5de045ebbf175e3287c32bcba57a700c8137aebba999"), looks := false }, told := true, goes := false }
def LawS5140ACoverToldSaid : Prop := Claim7.holds Ybaf.pinned (.plain (OpenSpec.ofChange lawS5140ACoverSpec)) lawS5140ACoverCard
/-- ITS FALSE NEIGHBOUR. Refute it at one input. -/
def LawS5140ACoverToldWrongFalsely : Prop := Claim7.holds Ybaf.pinned (.plain (OpenSpec.ofChange lawS5140ACoverWrong)) lawS5140ACoverCard
end Rows
end Go.Proofs.YbulkdbksFmt

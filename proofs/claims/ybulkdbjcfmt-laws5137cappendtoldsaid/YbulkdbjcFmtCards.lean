/-
  DERIVED. GIVEN WITH THE SEED: THE CARDS: each row of YbulkdbjcFmtRows.lean that lists a variable, with what it lists TIED to the program's text (the seventh form; the later family's looks); each row that meets fmt, with fmt's text TOLD by the authors' own Lean function (tested against real Go, not proved from fmt's source: count such statements apart). THE CARD IS WHAT COUNTS. Prove the row's statement (the work); the ties are given (YbulkdbjcFmtTie.lean); close each card by the builder's one call (the guide's Derived/Test/ToyasCard.lean, 'card_holds'). Laid BY PROGRAM, IN A SANDBOX (cutbox-door.mjs). By AI agents, Wed Nov 11 2026. No macro, syntax, notation, axiom, sorry.
-/
import Derived.Test.YbulkdbjcFmtRows
import GoSem.ClaimSeven
namespace Go.Proofs.YbulkdbjcFmt
namespace Rows

/-- THE TOLD AND TIED CARD OF 'timeweft.LawS5137BFree'. -/
def lawS5137BFreeCard : Claim7 := { stood := { row := lawS5137BFreeRow, standIns := [], harness := (true, "66cae65b7232a91d8e5ffd80e872e62d303e6ab3adcc68836cab5b1aec26f3bb"), looks := true }, told := true, laidByText := true, laidKinds := [.sentinel], laidTests := true, laidLooks := .later, goes := false }
def LawS5137BFreeToldSaid : Prop := Claim7.holds Ybaf.pinned (.plain (OpenSpec.ofChange lawS5137BFreeSpec)) lawS5137BFreeCard
/-- ITS FALSE NEIGHBOUR. Refute it at one input. -/
def LawS5137BFreeToldWrongFalsely : Prop := Claim7.holds Ybaf.pinned (.plain (OpenSpec.ofChange lawS5137BFreeWrong)) lawS5137BFreeCard

/-- THE TOLD AND TIED CARD OF 'timeweft.LawS5137BBound'. -/
def lawS5137BBoundCard : Claim7 := { stood := { row := lawS5137BBoundRow, standIns := [], harness := (true, "66cae65b7232a91d8e5ffd80e872e62d303e6ab3adcc68836cab5b1aec26f3bb"), looks := true }, told := true, laidByText := true, laidKinds := [.sentinel], laidTests := true, laidLooks := .later, goes := false }
def LawS5137BBoundToldSaid : Prop := Claim7.holds Ybaf.pinned (.plain (OpenSpec.ofChange lawS5137BBoundSpec)) lawS5137BBoundCard
/-- ITS FALSE NEIGHBOUR. Refute it at one input. -/
def LawS5137BBoundToldWrongFalsely : Prop := Claim7.holds Ybaf.pinned (.plain (OpenSpec.ofChange lawS5137BBoundWrong)) lawS5137BBoundCard

/-- THE TOLD AND TIED CARD OF 'timeweft.LawS5137CCheck'. -/
def lawS5137CCheckCard : Claim7 := { stood := { row := lawS5137CCheckRow, standIns := [], harness := (true, "66cae65b7232a91d8e5ffd80e872e62d303e6ab3adcc68836cab5b1aec26f3bb"), looks := true }, told := true, laidByText := true, laidKinds := [.called], laidTests := true, laidLooks := .later, goes := false }
def LawS5137CCheckToldSaid : Prop := Claim7.holds Ybaf.pinned (.plain (OpenSpec.ofChange lawS5137CCheckSpec)) lawS5137CCheckCard
/-- ITS FALSE NEIGHBOUR. Refute it at one input. -/
def LawS5137CCheckToldWrongFalsely : Prop := Claim7.holds Ybaf.pinned (.plain (OpenSpec.ofChange lawS5137CCheckWrong)) lawS5137CCheckCard

/-- THE TOLD AND TIED CARD OF 'timeweft.LawS5137CAppend'. -/
def lawS5137CAppendCard : Claim7 := { stood := { row := lawS5137CAppendRow, standIns := [], harness := (true, "66cae65b7232a91d8e5ffd80e872e62d303e6ab3adcc68836cab5b1aec26f3bb"), looks := true }, told := true, laidByText := true, laidKinds := [.called], laidTests := true, laidLooks := .later, goes := false }
def LawS5137CAppendToldSaid : Prop := Claim7.holds Ybaf.pinned (.plain (OpenSpec.ofChange lawS5137CAppendSpec)) lawS5137CAppendCard
/-- ITS FALSE NEIGHBOUR. Refute it at one input. -/
def LawS5137CAppendToldWrongFalsely : Prop := Claim7.holds Ybaf.pinned (.plain (OpenSpec.ofChange lawS5137CAppendWrong)) lawS5137CAppendCard
end Rows
end Go.Proofs.YbulkdbjcFmt

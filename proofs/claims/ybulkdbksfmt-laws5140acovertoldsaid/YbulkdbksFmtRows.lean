/-
  No cell of these rows narrows 'for every input' (looked for: loops, veiled, ifaces, maps, wideKeys, modest, calm, conditions, laid).
  DERIVED. THE GIVEN ROWS OF THIS SEAT. 2 by the template 'for every input the law returns true; each argument reads behind the call as it read before'; 0 by the template 'total and deterministic' (their statements: YbulkdbksFmtTotals.lean).
  GIVEN WITH THE SEED: the statements are not yours to turn. If you find one false, say at which input.
  Laid BY PROGRAM, IN A SANDBOX (cutbox-rows.mjs): the forced cells as the released guide's own fill.sh prints them over the translation 53c285494cbd2313… (all of the seat's roots in one cut). By AI agents, Wed Nov 11 2026. No macro, syntax, notation, axiom, sorry.
-/
import Derived.Test.YbulkdbksFmtChecked
import GoSem.Claim
import GoSem.ClaimJoined
import GoSem.ClaimMapViews
import Derived.JoinedTies
import Derived.KernelRfl
namespace Go.Proofs.YbulkdbksFmt
/- THE CELL 'sum', in the pinned program and in every row, IS THE sha256 OF THE DUMP (.gsa) THAT YbulkdbksFmtProg.lean LOADS. Nothing in Lean hashes anything: it is a label: what it is worth is what the hold of that sum in a sandbox is worth. -/
noncomputable def Ybaf.pinned : Pinned := { name := "ybulkdbksfmt", sum := "53c285494cbd2313a6e7f094a3f165bcc4d856829cf1221e6fe8b6fdd7bec41c", checked := Ybaf.checked }
namespace Rows
def none {H : Type} : Left H := { results := [], args := [] }

/-- 'bloom.LawS5140AExact': WHATEVER THE INPUT: true; the input reads as it did. -/
def lawS5140AExactSpec : ChangeSpec := { name := "lawS5140AExact", fn := fun _ => fun
  | [d1, d2, d3, d4, d5] => { results := [.lit (.bool true)], args := [d1, d2, d3, d4, d5] }
  | _ => none }
def lawS5140AExactRow : OpenClaim := { program := "ybulkdbksfmt", sum := "53c285494cbd2313a6e7f094a3f165bcc4d856829cf1221e6fe8b6fdd7bec41c", func := "example.com/ringbloom/ringbloom/internal/bloom.LawS5140AExact", spec := "lawS5140AExact", stops := ["fmt.Sprintf"], inPlace := ["fmt.Sprintf"], apart := false }
/-- NO THEOREM (fmt's text is open here; it may be false): for the released tool's asking of the row's closed facts alone. THE STATEMENT IS 'LawS5140AExactToldSaid' (YbulkdbksFmtCards.lean). -/
def LawS5140AExactFormAsk : Prop := lawS5140AExactRow.holds Ybaf.pinned (OpenSpec.ofChange lawS5140AExactSpec)

/-- ITS FALSE NEIGHBOUR: 'it returns false'. Refute it at one input. -/
def lawS5140AExactWrong : ChangeSpec := { name := "lawS5140AExact", fn := fun _ => fun
  | [d1, d2, d3, d4, d5] => { results := [.lit (.bool false)], args := [d1, d2, d3, d4, d5] }
  | _ => none }
def LawS5140AExactWrongFormAsk : Prop := lawS5140AExactRow.holds Ybaf.pinned (OpenSpec.ofChange lawS5140AExactWrong)

/-- 'bloom.LawS5140ACover': WHATEVER THE INPUT: true; the input reads as it did. -/
def lawS5140ACoverSpec : ChangeSpec := { name := "lawS5140ACover", fn := fun _ => fun
  | [d1, d2, d3, d4, d5] => { results := [.lit (.bool true)], args := [d1, d2, d3, d4, d5] }
  | _ => none }
def lawS5140ACoverRow : OpenClaim := { program := "ybulkdbksfmt", sum := "53c285494cbd2313a6e7f094a3f165bcc4d856829cf1221e6fe8b6fdd7bec41c", func := "example.com/ringbloom/ringbloom/internal/bloom.LawS5140ACover", spec := "lawS5140ACover", stops := ["fmt.Sprintf"], inPlace := ["fmt.Sprintf"], apart := false }
/-- NO THEOREM (fmt's text is open here; it may be false): for the released tool's asking of the row's closed facts alone. THE STATEMENT IS 'LawS5140ACoverToldSaid' (YbulkdbksFmtCards.lean). -/
def LawS5140ACoverFormAsk : Prop := lawS5140ACoverRow.holds Ybaf.pinned (OpenSpec.ofChange lawS5140ACoverSpec)

/-- ITS FALSE NEIGHBOUR: 'it returns false'. Refute it at one input. -/
def lawS5140ACoverWrong : ChangeSpec := { name := "lawS5140ACover", fn := fun _ => fun
  | [d1, d2, d3, d4, d5] => { results := [.lit (.bool false)], args := [d1, d2, d3, d4, d5] }
  | _ => none }
def LawS5140ACoverWrongFormAsk : Prop := lawS5140ACoverRow.holds Ybaf.pinned (OpenSpec.ofChange lawS5140ACoverWrong)

end Rows
end Go.Proofs.YbulkdbksFmt

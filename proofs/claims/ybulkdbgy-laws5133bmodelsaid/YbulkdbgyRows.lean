/-
  No cell of these rows narrows 'for every input' (looked for: loops, veiled, ifaces, maps, wideKeys, modest, calm, conditions, laid).
  DERIVED. THE GIVEN ROWS OF THIS SEAT. 2 by the template 'for every input the law returns true; each argument reads behind the call as it read before'; 0 by the template 'total and deterministic' (their statements: YbulkdbgyTotals.lean).
  GIVEN WITH THE SEED: the statements are not yours to turn. If you find one false, say at which input.
  Laid BY PROGRAM, IN A SANDBOX (cutbox-rows.mjs): the forced cells as the released guide's own fill.sh prints them over the translation 8ce3b9fadfdb66e3… (all of the seat's roots in one cut). By AI agents, Wed Nov 11 2026. No macro, syntax, notation, axiom, sorry.
-/
import Derived.Test.YbulkdbgyChecked
import GoSem.Claim
import GoSem.ClaimJoined
import GoSem.ClaimMapViews
import Derived.JoinedTies
import Derived.KernelRfl
namespace Go.Proofs.Ybulkdbgy
/- THE CELL 'sum', in the pinned program and in every row, IS THE sha256 OF THE DUMP (.gsa) THAT YbulkdbgyProg.lean LOADS. Nothing in Lean hashes anything: it is a label: what it is worth is what the hold of that sum in a sandbox is worth. -/
noncomputable def Yba.pinned : Pinned := { name := "ybulkdbgy", sum := "8ce3b9fadfdb66e3bf8f3fd4f3c8ee256f436b0cdbd62883915263ddca3a4019", checked := Yba.checked }
namespace Rows
def none {H : Type} : Left H := { results := [], args := [] }

/-- 'logloom.LawS5133BModel': WHATEVER THE INPUT: true; the input reads as it did. -/
def lawS5133BModelSpec : ChangeSpec := { name := "lawS5133BModel", fn := fun _ => fun
  | [d1, d2] => { results := [.lit (.bool true)], args := [d1, d2] }
  | _ => none }
def lawS5133BModelRow : OpenClaim := { program := "ybulkdbgy", sum := "8ce3b9fadfdb66e3bf8f3fd4f3c8ee256f436b0cdbd62883915263ddca3a4019", func := "example.com/logloom/logloom.LawS5133BModel", spec := "lawS5133BModel", apart := false }
def LawS5133BModelSaid : Prop := lawS5133BModelRow.holds Yba.pinned (OpenSpec.ofChange lawS5133BModelSpec)

/-- ITS FALSE NEIGHBOUR: 'it returns false'. Refute it at one input. -/
def lawS5133BModelWrong : ChangeSpec := { name := "lawS5133BModel", fn := fun _ => fun
  | [d1, d2] => { results := [.lit (.bool false)], args := [d1, d2] }
  | _ => none }
def LawS5133BModelWrongFalsely : Prop := lawS5133BModelRow.holds Yba.pinned (OpenSpec.ofChange lawS5133BModelWrong)

/-- 'logloom.LawS5133BOrder': WHATEVER THE INPUT: true; the input reads as it did. -/
def lawS5133BOrderSpec : ChangeSpec := { name := "lawS5133BOrder", fn := fun _ => fun
  | [d] => { results := [.lit (.bool true)], args := [d] }
  | _ => none }
def lawS5133BOrderRow : OpenClaim := { program := "ybulkdbgy", sum := "8ce3b9fadfdb66e3bf8f3fd4f3c8ee256f436b0cdbd62883915263ddca3a4019", func := "example.com/logloom/logloom.LawS5133BOrder", spec := "lawS5133BOrder", apart := false }
def LawS5133BOrderSaid : Prop := lawS5133BOrderRow.holds Yba.pinned (OpenSpec.ofChange lawS5133BOrderSpec)

/-- ITS FALSE NEIGHBOUR: 'it returns false'. Refute it at one input. -/
def lawS5133BOrderWrong : ChangeSpec := { name := "lawS5133BOrder", fn := fun _ => fun
  | [d] => { results := [.lit (.bool false)], args := [d] }
  | _ => none }
def LawS5133BOrderWrongFalsely : Prop := lawS5133BOrderRow.holds Yba.pinned (OpenSpec.ofChange lawS5133BOrderWrong)

end Rows
end Go.Proofs.Ybulkdbgy

/-
  No cell of these rows narrows 'for every input' (looked for: loops, veiled, ifaces, maps, wideKeys, modest, calm, conditions, laid).
  DERIVED. THE GIVEN ROWS OF THIS SEAT. 3 by the template 'for every input the law returns true; each argument reads behind the call as it read before'; 0 by the template 'total and deterministic' (their statements: YbulkdbksTotals.lean).
  GIVEN WITH THE SEED: the statements are not yours to turn. If you find one false, say at which input.
  Laid BY PROGRAM, IN A SANDBOX (cutbox-rows.mjs): the forced cells as the released guide's own fill.sh prints them over the translation b68105aa3d0a9802… (all of the seat's roots in one cut). By AI agents, Wed Nov 11 2026. No macro, syntax, notation, axiom, sorry.
-/
import Derived.Test.YbulkdbksChecked
import GoSem.Claim
import GoSem.ClaimJoined
import GoSem.ClaimMapViews
import Derived.JoinedTies
import Derived.KernelRfl
namespace Go.Proofs.Ybulkdbks
/- THE CELL 'sum', in the pinned program and in every row, IS THE sha256 OF THE DUMP (.gsa) THAT YbulkdbksProg.lean LOADS. Nothing in Lean hashes anything: it is a label: what it is worth is what the hold of that sum in a sandbox is worth. -/
noncomputable def Yba.pinned : Pinned := { name := "ybulkdbks", sum := "b68105aa3d0a9802f781e952bdbddf717a454bfcc637f870ca8a5423096d9879", checked := Yba.checked }
namespace Rows
def none {H : Type} : Left H := { results := [], args := [] }

/-- 'wire.LawS5140BModel': WHATEVER THE INPUT: true; the input reads as it did. -/
def lawS5140BModelSpec : ChangeSpec := { name := "lawS5140BModel", fn := fun _ => fun
  | [d1, d2] => { results := [.lit (.bool true)], args := [d1, d2] }
  | _ => none }
def lawS5140BModelRow : OpenClaim := { program := "ybulkdbks", sum := "b68105aa3d0a9802f781e952bdbddf717a454bfcc637f870ca8a5423096d9879", func := "example.com/ringbloom/ringbloom/internal/wire.LawS5140BModel", spec := "lawS5140BModel", named := ["encoding/binary.BigEndian"], plainKeys := false, apart := false }
def LawS5140BModelSaid : Prop := lawS5140BModelRow.holds Yba.pinned (OpenSpec.ofChange lawS5140BModelSpec)

/-- ITS FALSE NEIGHBOUR: 'it returns false'. Refute it at one input. -/
def lawS5140BModelWrong : ChangeSpec := { name := "lawS5140BModel", fn := fun _ => fun
  | [d1, d2] => { results := [.lit (.bool false)], args := [d1, d2] }
  | _ => none }
def LawS5140BModelWrongFalsely : Prop := lawS5140BModelRow.holds Yba.pinned (OpenSpec.ofChange lawS5140BModelWrong)

/-- 'wire.LawS5140BRoundTrip': WHATEVER THE INPUT: true; the input reads as it did. -/
def lawS5140BRoundTripSpec : ChangeSpec := { name := "lawS5140BRoundTrip", fn := fun _ => fun
  | [d1, d2] => { results := [.lit (.bool true)], args := [d1, d2] }
  | _ => none }
def lawS5140BRoundTripRow : OpenClaim := { program := "ybulkdbks", sum := "b68105aa3d0a9802f781e952bdbddf717a454bfcc637f870ca8a5423096d9879", func := "example.com/ringbloom/ringbloom/internal/wire.LawS5140BRoundTrip", spec := "lawS5140BRoundTrip", named := ["encoding/binary.BigEndian"], plainKeys := false, apart := false }
def LawS5140BRoundTripSaid : Prop := lawS5140BRoundTripRow.holds Yba.pinned (OpenSpec.ofChange lawS5140BRoundTripSpec)

/-- ITS FALSE NEIGHBOUR: 'it returns false'. Refute it at one input. -/
def lawS5140BRoundTripWrong : ChangeSpec := { name := "lawS5140BRoundTrip", fn := fun _ => fun
  | [d1, d2] => { results := [.lit (.bool false)], args := [d1, d2] }
  | _ => none }
def LawS5140BRoundTripWrongFalsely : Prop := lawS5140BRoundTripRow.holds Yba.pinned (OpenSpec.ofChange lawS5140BRoundTripWrong)

/-- 'node.LawS5140CScript': WHATEVER THE INPUT: true; the input reads as it did. -/
def lawS5140CScriptSpec : ChangeSpec := { name := "lawS5140CScript", fn := fun _ => fun
  | [d1, d2, d3, d4] => { results := [.lit (.bool true)], args := [d1, d2, d3, d4] }
  | _ => none }
def lawS5140CScriptRow : OpenClaim := { program := "ybulkdbks", sum := "b68105aa3d0a9802f781e952bdbddf717a454bfcc637f870ca8a5423096d9879", func := "example.com/ringbloom/ringbloom/internal/node.LawS5140CScript", spec := "lawS5140CScript", inPlace := ["internal/abi.NoEscape", "internal/bytealg.MakeNoZero"], plainKeys := false, apart := false }
def LawS5140CScriptSaid : Prop := lawS5140CScriptRow.holds Yba.pinned (OpenSpec.ofChange lawS5140CScriptSpec)

/-- ITS FALSE NEIGHBOUR: 'it returns false'. Refute it at one input. -/
def lawS5140CScriptWrong : ChangeSpec := { name := "lawS5140CScript", fn := fun _ => fun
  | [d1, d2, d3, d4] => { results := [.lit (.bool false)], args := [d1, d2, d3, d4] }
  | _ => none }
def LawS5140CScriptWrongFalsely : Prop := lawS5140CScriptRow.holds Yba.pinned (OpenSpec.ofChange lawS5140CScriptWrong)

end Rows
end Go.Proofs.Ybulkdbks

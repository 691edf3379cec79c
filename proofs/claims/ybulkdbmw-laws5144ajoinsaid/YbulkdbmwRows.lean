/-
  No cell of these rows narrows 'for every input' (looked for: loops, veiled, ifaces, maps, wideKeys, modest, calm, conditions, laid).
  DERIVED. THE GIVEN ROWS OF THIS SEAT. 1 by the template 'for every input the law returns true; each argument reads behind the call as it read before'; 0 by the template 'total and deterministic' (their statements: YbulkdbmwTotals.lean).
  GIVEN WITH THE SEED: the statements are not yours to turn. If you find one false, say at which input.
  Laid BY PROGRAM, IN A SANDBOX (cutbox-rows.mjs): the forced cells as the released guide's own fill.sh prints them over the translation bbe01c8214482caf… (all of the seat's roots in one cut). By AI agents, Wed Nov 11 2026. No macro, syntax, notation, axiom, sorry.
-/
import Derived.Test.YbulkdbmwChecked
import GoSem.Claim
import GoSem.ClaimJoined
import GoSem.ClaimMapViews
import Derived.JoinedTies
import Derived.KernelRfl
namespace Go.Proofs.Ybulkdbmw
/- THE CELL 'sum', in the pinned program and in every row, IS THE sha256 OF THE DUMP (.gsa) THAT YbulkdbmwProg.lean LOADS. Nothing in Lean hashes anything: it is a label: what it is worth is what the hold of that sum in a sandbox is worth. -/
noncomputable def Yba.pinned : Pinned := { name := "ybulkdbmw", sum := "bbe01c8214482caff412d863a8bb418656718b80c848164c3369348dd0d3b4d7", checked := Yba.checked }
namespace Rows
def none {H : Type} : Left H := { results := [], args := [] }

/-- 'store.LawS5144AJoin': WHATEVER THE INPUT: true; the input reads as it did. -/
def lawS5144AJoinSpec : ChangeSpec := { name := "lawS5144AJoin", fn := fun _ => fun
  | [d1, d2, d3] => { results := [.lit (.bool true)], args := [d1, d2, d3] }
  | _ => none }
def lawS5144AJoinRow : OpenClaim := { program := "ybulkdbmw", sum := "bbe01c8214482caff412d863a8bb418656718b80c848164c3369348dd0d3b4d7", func := "example.com/ringtide/ringtide/internal/store.LawS5144AJoin", spec := "lawS5144AJoin", inPlace := ["internal/bytealg.abigen_runtime_cmpstring"], unfollowed := true, recurses := true, plainKeys := false, apart := false }
def LawS5144AJoinSaid : Prop := lawS5144AJoinRow.holds Yba.pinned (OpenSpec.ofChange lawS5144AJoinSpec)

/-- ITS FALSE NEIGHBOUR: 'it returns false'. Refute it at one input. -/
def lawS5144AJoinWrong : ChangeSpec := { name := "lawS5144AJoin", fn := fun _ => fun
  | [d1, d2, d3] => { results := [.lit (.bool false)], args := [d1, d2, d3] }
  | _ => none }
def LawS5144AJoinWrongFalsely : Prop := lawS5144AJoinRow.holds Yba.pinned (OpenSpec.ofChange lawS5144AJoinWrong)

end Rows
end Go.Proofs.Ybulkdbmw

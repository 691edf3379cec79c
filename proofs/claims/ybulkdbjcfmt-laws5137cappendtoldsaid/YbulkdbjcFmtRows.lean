/-
  NARROWER THAN 'FOR EVERY INPUT', by the rows' own cells (each row's printed sentence says how): LawS5137BFree: ifaces, laid · LawS5137BBound: ifaces, laid · LawS5137CCheck: ifaces, laid · LawS5137CAppend: ifaces, laid.
  DERIVED. THE GIVEN ROWS OF THIS SEAT. 4 by the template 'for every input the law returns true; each argument reads behind the call as it read before'; 0 by the template 'total and deterministic' (their statements: YbulkdbjcFmtTotals.lean).
  GIVEN WITH THE SEED: the statements are not yours to turn. If you find one false, say at which input.
  Laid BY PROGRAM, IN A SANDBOX (cutbox-rows.mjs): the forced cells as the released guide's own fill.sh prints them over the translation 139b4669e55b2c42… (all of the seat's roots in one cut). By AI agents, Wed Nov 11 2026. No macro, syntax, notation, axiom, sorry.
-/
import Derived.Test.YbulkdbjcFmtChecked
import GoSem.Claim
import GoSem.ClaimJoined
import GoSem.ClaimMapViews
import Derived.JoinedTies
import Derived.KernelRfl
namespace Go.Proofs.YbulkdbjcFmt
/- THE CELL 'sum', in the pinned program and in every row, IS THE sha256 OF THE DUMP (.gsa) THAT YbulkdbjcFmtProg.lean LOADS. Nothing in Lean hashes anything: it is a label: what it is worth is what the hold of that sum in a sandbox is worth. -/
noncomputable def Ybaf.pinned : Pinned := { name := "ybulkdbjcfmt", sum := "139b4669e55b2c42e731a0786007875363d671fbbc7aed3d3abdbd6a89d8b12c", checked := Ybaf.checked }
namespace Rows
def none {H : Type} : Left H := { results := [], args := [] }

/- WHAT THE LISTED PACKAGE-LEVEL VARIABLES READ AS WHEN THE CALL BEGINS. Each datum BY PROGRAM (the guide's laid-datum.mjs) off the statement by which the dump's own 'gosem.cut.vars' lays the variable. In a bare row this is a premise. The card (YbulkdbjcFmtCards.lean) ties it to the program's text. -/
def laid_example_com_timeweft_timeweft_ErrBound {H : Type} : DataW H := .iface "*errors.errorString" (.ptr (.agg [.lit (.string [116, 105, 109, 101, 119, 101, 102, 116, 58, 32, 115, 116, 111, 114, 101, 100, 32, 98, 111, 117, 110, 100, 32, 102, 97, 105, 108, 101, 100])]))
def laid_example_com_timeweft_timeweft_ErrRange {H : Type} : DataW H := .iface "*errors.errorString" (.ptr (.agg [.lit (.string [116, 105, 109, 101, 119, 101, 102, 116, 58, 32, 116, 105, 109, 101, 115, 116, 97, 109, 112, 32, 111, 117, 116, 32, 111, 102, 32, 114, 97, 110, 103, 101])]))

/-- 'timeweft.LawS5137BFree': WHATEVER THE INPUT: true; the input reads as it did. -/
def lawS5137BFreeSpec : ChangeSpec := { name := "lawS5137BFree", vars := ["example.com/timeweft/timeweft.ErrBound"], fn := fun _ => fun
  | [d1, d2, g1] => { results := [.lit (.bool true)], args := [d1, d2], vars := [g1] }
  | _ => none }
def lawS5137BFreeRow : OpenClaim := { program := "ybulkdbjcfmt", sum := "139b4669e55b2c42e731a0786007875363d671fbbc7aed3d3abdbd6a89d8b12c", func := "example.com/timeweft/timeweft.LawS5137BFree", spec := "lawS5137BFree", stops := ["fmt.errorf"], inPlace := ["sync/atomic.StoreUint64", "sync/atomic.LoadUint64", "sync/atomic.LoadInt64", "(*internal/sync.Mutex).Lock", "internal/race.Disable", "sync/atomic.CompareAndSwapInt32", "internal/race.Enable", "internal/race.Acquire", "(*internal/sync.Mutex).lockSlow", "internal/sync.runtime_canSpin", "internal/sync.runtime_doSpin", "internal/sync.throw", "internal/sync.runtime_nanotime", "internal/sync.runtime_SemacquireMutex", "sync/atomic.AddInt32", "(*internal/sync.Mutex).Unlock", "internal/race.ReleaseMerge", "(*internal/sync.Mutex).unlockSlow", "internal/sync.fatal", "internal/sync.runtime_Semrelease", "fmt.errorf", "sync/atomic.StoreInt64", "sync/atomic.CompareAndSwapUint64"], unfollowed := true, recurses := true, named := ["example.com/timeweft/timeweft.ErrBound"], ifaces := true, apart := false, laid := [("example.com/timeweft/timeweft.ErrBound", laid_example_com_timeweft_timeweft_ErrBound)] }
/-- NO THEOREM (fmt's text is open here; it may be false): for the released tool's asking of the row's closed facts alone. THE STATEMENT IS 'LawS5137BFreeToldSaid' (YbulkdbjcFmtCards.lean). -/
def LawS5137BFreeFormAsk : Prop := lawS5137BFreeRow.holds Ybaf.pinned (OpenSpec.ofChange lawS5137BFreeSpec)

/-- ITS FALSE NEIGHBOUR: 'it returns false'. Refute it at one input. -/
def lawS5137BFreeWrong : ChangeSpec := { name := "lawS5137BFree", vars := ["example.com/timeweft/timeweft.ErrBound"], fn := fun _ => fun
  | [d1, d2, g1] => { results := [.lit (.bool false)], args := [d1, d2], vars := [g1] }
  | _ => none }
def LawS5137BFreeWrongFormAsk : Prop := lawS5137BFreeRow.holds Ybaf.pinned (OpenSpec.ofChange lawS5137BFreeWrong)

/-- 'timeweft.LawS5137BBound': WHATEVER THE INPUT: true; the input reads as it did. -/
def lawS5137BBoundSpec : ChangeSpec := { name := "lawS5137BBound", vars := ["example.com/timeweft/timeweft.ErrBound"], fn := fun _ => fun
  | [d1, d2, d3, d4, d5, g1] => { results := [.lit (.bool true)], args := [d1, d2, d3, d4, d5], vars := [g1] }
  | _ => none }
def lawS5137BBoundRow : OpenClaim := { program := "ybulkdbjcfmt", sum := "139b4669e55b2c42e731a0786007875363d671fbbc7aed3d3abdbd6a89d8b12c", func := "example.com/timeweft/timeweft.LawS5137BBound", spec := "lawS5137BBound", stops := ["fmt.errorf"], inPlace := ["sync/atomic.StoreInt64", "sync/atomic.StoreUint64", "sync/atomic.LoadUint64", "sync/atomic.LoadInt64", "(*internal/sync.Mutex).Lock", "internal/race.Disable", "sync/atomic.CompareAndSwapInt32", "internal/race.Enable", "internal/race.Acquire", "(*internal/sync.Mutex).lockSlow", "internal/sync.runtime_canSpin", "internal/sync.runtime_doSpin", "internal/sync.throw", "internal/sync.runtime_nanotime", "internal/sync.runtime_SemacquireMutex", "sync/atomic.AddInt32", "(*internal/sync.Mutex).Unlock", "internal/race.ReleaseMerge", "(*internal/sync.Mutex).unlockSlow", "internal/sync.fatal", "internal/sync.runtime_Semrelease", "fmt.errorf", "sync/atomic.CompareAndSwapUint64", "internal/reflectlite.TypeOf"], unfollowed := true, recurses := true, named := ["example.com/timeweft/timeweft.ErrBound"], ifaces := true, apart := false, laid := [("example.com/timeweft/timeweft.ErrBound", laid_example_com_timeweft_timeweft_ErrBound)] }
/-- NO THEOREM (fmt's text is open here; it may be false): for the released tool's asking of the row's closed facts alone. THE STATEMENT IS 'LawS5137BBoundToldSaid' (YbulkdbjcFmtCards.lean). -/
def LawS5137BBoundFormAsk : Prop := lawS5137BBoundRow.holds Ybaf.pinned (OpenSpec.ofChange lawS5137BBoundSpec)

/-- ITS FALSE NEIGHBOUR: 'it returns false'. Refute it at one input. -/
def lawS5137BBoundWrong : ChangeSpec := { name := "lawS5137BBound", vars := ["example.com/timeweft/timeweft.ErrBound"], fn := fun _ => fun
  | [d1, d2, d3, d4, d5, g1] => { results := [.lit (.bool false)], args := [d1, d2, d3, d4, d5], vars := [g1] }
  | _ => none }
def LawS5137BBoundWrongFormAsk : Prop := lawS5137BBoundRow.holds Ybaf.pinned (OpenSpec.ofChange lawS5137BBoundWrong)

/-- 'timeweft.LawS5137CCheck': WHATEVER THE INPUT: true; the input reads as it did. -/
def lawS5137CCheckSpec : ChangeSpec := { name := "lawS5137CCheck", vars := ["example.com/timeweft/timeweft.ErrRange"], fn := fun _ => fun
  | [d1, d2, g1] => { results := [.lit (.bool true)], args := [d1, d2], vars := [g1] }
  | _ => none }
def lawS5137CCheckRow : OpenClaim := { program := "ybulkdbjcfmt", sum := "139b4669e55b2c42e731a0786007875363d671fbbc7aed3d3abdbd6a89d8b12c", func := "example.com/timeweft/timeweft.LawS5137CCheck", spec := "lawS5137CCheck", stops := ["fmt.errorf"], inPlace := ["fmt.errorf", "internal/reflectlite.TypeOf"], unfollowed := true, recurses := true, named := ["example.com/timeweft/timeweft.ErrRange"], ifaces := true, apart := false, laid := [("example.com/timeweft/timeweft.ErrRange", laid_example_com_timeweft_timeweft_ErrRange)] }
/-- NO THEOREM (fmt's text is open here; it may be false): for the released tool's asking of the row's closed facts alone. THE STATEMENT IS 'LawS5137CCheckToldSaid' (YbulkdbjcFmtCards.lean). -/
def LawS5137CCheckFormAsk : Prop := lawS5137CCheckRow.holds Ybaf.pinned (OpenSpec.ofChange lawS5137CCheckSpec)

/-- ITS FALSE NEIGHBOUR: 'it returns false'. Refute it at one input. -/
def lawS5137CCheckWrong : ChangeSpec := { name := "lawS5137CCheck", vars := ["example.com/timeweft/timeweft.ErrRange"], fn := fun _ => fun
  | [d1, d2, g1] => { results := [.lit (.bool false)], args := [d1, d2], vars := [g1] }
  | _ => none }
def LawS5137CCheckWrongFormAsk : Prop := lawS5137CCheckRow.holds Ybaf.pinned (OpenSpec.ofChange lawS5137CCheckWrong)

/-- 'timeweft.LawS5137CAppend': WHATEVER THE INPUT: true; the input reads as it did. -/
def lawS5137CAppendSpec : ChangeSpec := { name := "lawS5137CAppend", vars := ["example.com/timeweft/timeweft.ErrRange"], fn := fun _ => fun
  | [d1, d2, d3, g1] => { results := [.lit (.bool true)], args := [d1, d2, d3], vars := [g1] }
  | _ => none }
def lawS5137CAppendRow : OpenClaim := { program := "ybulkdbjcfmt", sum := "139b4669e55b2c42e731a0786007875363d671fbbc7aed3d3abdbd6a89d8b12c", func := "example.com/timeweft/timeweft.LawS5137CAppend", spec := "lawS5137CAppend", stops := ["fmt.errorf"], inPlace := ["fmt.errorf", "internal/reflectlite.TypeOf"], unfollowed := true, recurses := true, named := ["example.com/timeweft/timeweft.ErrRange", "encoding/binary.BigEndian"], ifaces := true, apart := false, laid := [("example.com/timeweft/timeweft.ErrRange", laid_example_com_timeweft_timeweft_ErrRange)] }
/-- NO THEOREM (fmt's text is open here; it may be false): for the released tool's asking of the row's closed facts alone. THE STATEMENT IS 'LawS5137CAppendToldSaid' (YbulkdbjcFmtCards.lean). -/
def LawS5137CAppendFormAsk : Prop := lawS5137CAppendRow.holds Ybaf.pinned (OpenSpec.ofChange lawS5137CAppendSpec)

/-- ITS FALSE NEIGHBOUR: 'it returns false'. Refute it at one input. -/
def lawS5137CAppendWrong : ChangeSpec := { name := "lawS5137CAppend", vars := ["example.com/timeweft/timeweft.ErrRange"], fn := fun _ => fun
  | [d1, d2, d3, g1] => { results := [.lit (.bool false)], args := [d1, d2, d3], vars := [g1] }
  | _ => none }
def LawS5137CAppendWrongFormAsk : Prop := lawS5137CAppendRow.holds Ybaf.pinned (OpenSpec.ofChange lawS5137CAppendWrong)

end Rows
end Go.Proofs.YbulkdbjcFmt

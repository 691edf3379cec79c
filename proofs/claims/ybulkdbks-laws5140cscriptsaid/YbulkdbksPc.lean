import Derived.Test.YbulkdbksChain
namespace Go.Proofs.Ybulkdbks
open Go Go.RowKit

/-- A part of a code, by its path. -/
def sel : List Nat → Code → Code
  | [], c => c
  | 0 :: p, .seq a _ => sel p a
  | 1 :: p, .seq _ b => sel p b
  | 0 :: p, .cond _ a _ => sel p a
  | 1 :: p, .cond _ _ b => sel p b
  | 0 :: p, .block _ c => sel p c
  | 0 :: p, .loop c => sel p c
  | _, _ => .skip

noncomputable def whole : Code := Yba.f5.body.getD .skip
/-- What checks the state behind a step. -/
noncomputable def pCk : Code := sel [1, 1, 1, 1, 1, 1, 1, 0, 1, 0, 0, 1, 1, 0, 0, 1, 1, 1, 1, 1, 1, 1] whole
/-- The step by Kept. -/
noncomputable def pA : Code := sel [1, 1, 1, 1, 1, 1, 1, 0, 1, 0, 0, 1, 1, 0, 0, 1, 1, 1, 1, 1, 1, 0, 1, 0] whole
/-- The step by Keep. -/
noncomputable def pB : Code := sel [1, 1, 1, 1, 1, 1, 1, 0, 1, 0, 0, 1, 1, 0, 0, 1, 1, 1, 1, 1, 1, 0, 1, 1] whole
/-- What the law's own list does at Keep. -/
noncomputable def pB2 : Code := sel [1, 1, 1, 1, 1, 1, 1, 0, 1, 0, 0, 1, 1, 0, 0, 1, 1, 1, 1, 1, 1, 0, 1, 1, 1, 1, 1, 1] whole
/-- The whole round. -/
noncomputable def pL : Code := sel [1, 1, 1, 1, 1, 1, 1, 0, 1, 0, 0] whole
end Go.Proofs.Ybulkdbks

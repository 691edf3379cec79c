import Derived.Test.YbulkdbmwNw
import Derived.Laws.StructEq
namespace Go.Proofs.Ybulkdbmw
open Go Go.RowKit Go.Sort

theorem part31 (xs : Array Value) (j : Nat) (w : World) : (part 31 xs j).run Yba.prog w = (match xs[j]? with | some v => (pure v : Sem Value) | none => stuck "part: no such cell").run Yba.prog w := by
  unfold part isAgg
  simp only [Sem.run_bind, run_underlying Yba.underlying31, Result.andThen_ok]
  cases xs[j]? <;> simp

set_option maxHeartbeats 1600000 in
/-- Two arrays of six. -/
theorem arr6 (d : Nat) (a0 a1 a2 a3 a4 a5 b0 b1 b2 b3 b4 b5 : Int) (w : World) :
    (Op.equalIn (d + 2) 32 (.agg #[.int .u32 a0, .int .u32 a1, .int .u32 a2, .int .u32 a3, .int .u32 a4, .int .u32 a5]) (.agg #[.int .u32 b0, .int .u32 b1, .int .u32 b2, .int .u32 b3, .int .u32 b4, .int .u32 b5])).run Yba.prog w = .ok (decide (a0 = b0 ∧ a1 = b1 ∧ a2 = b2 ∧ a3 = b3 ∧ a4 = b4 ∧ a5 = b5)) w := by
  have H := fun (x y : Int) (w : World) => run_equalIn_int (P := Yba.prog) w d 31 .u32 .u32 x y Yba.underlying31
  rw [Op.equalIn]
  simp only [Sem.run_bind, run_underlying Yba.underlying32, Result.andThen_ok, Yba.sizeOf31, Std.Legacy.Range.forIn_eq_forIn_range', Std.Legacy.Range.size]
  simp only [Nat.sub_zero, Nat.div_one, Nat.reduceAdd, Nat.reduceSub, List.range', List.forIn_cons]
  by_cases e0 : a0 = b0
  · by_cases e1 : a1 = b1
    · by_cases e2 : a2 = b2
      · by_cases e3 : a3 = b3
        · by_cases e4 : a4 = b4
          · by_cases e5 : a5 = b5
            · simp [Sem.run_bind, part31, H, e0, e1, e2, e3, e4, e5]
            · simp [Sem.run_bind, part31, H, e0, e1, e2, e3, e4, e5]
          · simp [Sem.run_bind, part31, H, e0, e1, e2, e3, e4]
        · simp [Sem.run_bind, part31, H, e0, e1, e2, e3]
      · simp [Sem.run_bind, part31, H, e0, e1, e2]
    · simp [Sem.run_bind, part31, H, e0, e1]
  · simp [Sem.run_bind, part31, H, e0]
end Go.Proofs.Ybulkdbmw

import Derived.Test.YbulkdbksMats
import Derived.Test.YbulkdbksShelf
namespace Go.Proofs.Ybulkdbks
open Go Go.RowKit

def joinB (xs : List ByteArray) : ByteArray := ⟨(Lib.join (xs.map (·.data.toList)) [32]).toArray⟩

theorem joinB_size (xs : List ByteArray) : (joinB xs).size = (Lib.join (xs.map (·.data.toList)) [32]).length := by simp [joinB, ByteArray.size]

theorem query_any (bk c : Nat) (xs : List ByteArray) (w : World) (hc : ∀ (j : Nat) x, xs[j]? = some x → w.cell? ⟨bk, j, none⟩ = some (.string x)) (hb : bk < w.heap.size) (hx : xs.length ≤ 10) (hcap : xs.length ≤ c)
    (hl : (joinB xs).size ≤ 100) :
    Calls Yba.prog 29 #[.slice (some ⟨bk, 0, none⟩) xs.length c] w fun e w' => e = .returned (.string (joinB xs)) ∧ Below w.heap.size w w' := by
  have hl2 : (Lib.join (xs.map (·.data.toList)) [32]).length ≤ 140737488355328 := by rw [← joinB_size]; omega
  have HJ : Hid _ := Yba.strings_Join bk 0 c xs ⟨#[32]⟩ w (fun j x h => by rw [Nat.zero_add]; exact hc j x h) hb (by omega) hcap hl2
  clear hl2
  go_enter Yba.func29, Yba.ntmps29
  go_wp2_with (go_at_call 42; refine Calls.mono HJ.out ?_; rintro e w' ⟨rfl, hb'⟩; have HB : Hid _ := hb'; clear hb')
  go_ret
  exact ⟨rfl, HB.out⟩

theorem gdN {a b : World} {row : Option Nat} (h : a.grownBy b row) (n : Nat) : a.grownBy (b.drewN n) row := ⟨h.os, h.tape, h.output, h.size, h.block⟩

/-- A query of these keywords alone. -/
abbrev qz (kw : Value) : Value := .agg #[kw, .pointer none, .int .u8 0, .int .u8 0, .int .u8 0, .int .u8 0, .int .u8 0, .int .u8 0, .int .u8 0, .int .u8 0, .int .u8 0, .int .u8 0, .int .u8 0, .int .u8 0, .int .u8 0, .int .u8 0, .int .u8 0, .int .u8 0, .int .u8 0, .int .u8 0, .int .u8 0, .int .u8 0, .int .i64 0]

set_option maxHeartbeats 1000000 in
set_option maxRecDepth 100000 in
theorem keeps_any (nb : Nat) (N K : Int) (ao : Option Addr) (n c : Nat) (w : World) (cN : w.cell? ⟨nb, 112, none⟩ = some (.int .i64 N)) (cK : w.cell? ⟨nb, 113, none⟩ = some (.int .i64 K)) (_hn : n ≤ 10) :
    Calls Yba.prog 28 #[ptr nb 112, qz (.slice ao n c)] w fun e w' => e = .returned (.bool (decide (0 < N ∧ (n : Int) ≤ K))) ∧ w.grownBy w' none := by
  have lb := cell_lt cN
  by_cases h : 0 < N
  · have hd : decide ((0 : Int) < N) = true := by simp [h]
    go_enter Yba.func28, Yba.ntmps28
    go_wp2
    go_quiet (fail)
    go_wp2
    go_ret
    refine ⟨?_, gdN (World.grownBy_alloc w _ none) nq⟩
    show Ending.returned (.bool (decide ((n : Int) ≤ K))) = _
    congr 2
    simp [h]
  · have hd : decide ((0 : Int) < N) = false := by simp; omega
    go_enter Yba.func28, Yba.ntmps28
    go_wp2
    go_quiet (fail)
    go_wp2
    go_ret
    refine ⟨?_, gdN (World.grownBy_alloc w _ none) nq⟩
    show Ending.returned (.bool false) = _
    congr 2
    simp; omega
end Go.Proofs.Ybulkdbks

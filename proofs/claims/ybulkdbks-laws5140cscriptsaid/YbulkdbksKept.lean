import Derived.Test.YbulkdbksAns
import Derived.Test.YbulkdbksKw
import Derived.Test.YbulkdbksEq
import Derived.Laws.Rows
namespace Go.Proofs.Ybulkdbks
open Go Go.RowKit

theorem look_hit {w : World} {κ : Nat → Nat} {nb mb : Nat} {N K F : Int} {L : List Ent} {e : Ent} (I : Inv w κ nb mb N K F L) (he : e ∈ L) : (Instr.lookup 67 (.map (some mb)) (.string e.key) false).run Yba.prog w = .ok (ptr e.eb 0) w := by
  obtain ⟨D, hD, hM⟩ := I.map
  obtain ⟨v, ps, hrun, hv⟩ := hD.lookup law9 Yba.underlying67 (Yba.zeroValue68 w) pElem_nil (keyS (I.ents e he).kz)
  rw [hM.at' e he] at hv
  rw [hrun, pElem_inv_lit hv]

theorem look_miss {w : World} {κ : Nat → Nat} {nb mb : Nat} {N K F : Int} {L : List Ent} {key : ByteArray} (I : Inv w κ nb mb N K F L) (hk : key.size ≤ 100) (he : ∀ e ∈ L, e.key ≠ key) : (Instr.lookup 67 (.map (some mb)) (.string key) false).run Yba.prog w = .ok (.pointer none) w := by
  obtain ⟨D, hD, hM⟩ := I.map
  obtain ⟨v, ps, hrun, hv⟩ := hD.lookup law9 Yba.underlying67 (Yba.zeroValue68 w) pElem_nil (keyS hk)
  rw [Maps.atKey_of_not_has (hM.out _ (fun e h hh => he e h (kl_inj hh)))] at hv
  rw [hrun, pElem_inv_nil hv]

/-- A slice of words that can be read. -/
def KwAt (w : World) (b : Nat) (xs : List ByteArray) : Prop := b < w.heap.size ∧ ∀ (j : Nat) x, xs[j]? = some x → w.cell? ⟨b, j, none⟩ = some (.string x)
theorem KwAt.grown {w w' : World} {b : Nat} {xs : List ByteArray} (h : KwAt w b xs) (g : w.grownBy w' none) : KwAt w' b xs := ⟨Nat.lt_of_lt_of_le h.1 g.size, fun j x hx => cell_grown (h.2 j x hx) g⟩

theorem info84 (c : Array Value) (h : c.size = 23) : (Yba.prog.info? 84).map (·.size) = some c.size := by rw [h]; kernel_rfl
set_option maxHeartbeats 1000000 in
set_option maxRecDepth 100000 in
theorem kept_not {w : World} (nb : Nat) (N K now : Int) (ao : Option Addr) (n c : Nat) (cN : w.cell? ⟨nb, 112, none⟩ = some (.int .i64 N)) (cK : w.cell? ⟨nb, 113, none⟩ = some (.int .i64 K)) (hn : n ≤ 10) (hno : ¬ (0 < N ∧ (n : Int) ≤ K)) :
    Calls Yba.prog 14 #[ptr nb 0, qz (.slice ao n c), .int .i64 now] w fun e w' => e = .returned (.tuple #[.slice none 0 0, .bool false]) ∧ w.grownBy w' none := by
  have HK : Hid (∀ w1 : World, w.grownBy w1 none → Calls Yba.prog 28 #[ptr nb 112, qz (.slice ao n c)] w1 fun e w' => e = .returned (.bool false) ∧ w1.grownBy w' none) := fun w1 g => by
    refine (keeps_any nb N K ao n c w1 (cell_grown cN g) (cell_grown cK g) hn).mono ?_
    rintro e w' ⟨rfl, h⟩
    exact ⟨by simp; exact fun h1 => by omega, h⟩
  go_enter Yba.func14, Yba.ntmps14
  go_wp2_with (first | (refine wpList_load_row rfl 84 (.tmp 4) rfl w.heap.size rfl 84 _ (0, 0) _ heap_new Yba.underlying84 rfl (info84 _ rfl) ?_) | (go_at_call 28; refine Calls.mono (HK.out _ (World.grownBy_alloc w _ none)) ?_; rintro e w' ⟨rfl, hg⟩; have HG : Hid _ := hg; clear hg))
  go_ret2
  exact ⟨rfl, grown_trans (World.grownBy_alloc w _ none) HG.out⟩
end Go.Proofs.Ybulkdbks

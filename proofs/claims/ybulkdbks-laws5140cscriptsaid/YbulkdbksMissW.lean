import Derived.Test.YbulkdbksMiss
namespace Go.Proofs.Ybulkdbks
open Go Go.RowKit

set_option maxHeartbeats 2000000 in
set_option maxRecDepth 100000 in
theorem kept_miss {w : World} {κ : Nat → Nat} {nb mb N c kb : Nat} {K F now : Int} {L : List Ent} {xs : List ByteArray} (I : Inv w κ nb mb (N : Int) K F L) (hl : L.length ≤ 900) (hheld : heldOf L ≤ 90000) (hN : N ≤ 100)
    (hkw : KwAt w kb xs) (hx : xs.length ≤ 10) (hc : xs.length ≤ c) (hk : (joinB xs).size ≤ 100) (hyes : 0 < (N : Int) ∧ (xs.length : Int) ≤ K) (hnk : ∀ x ∈ L, x.key ≠ joinB xs) (h0 : 0 ≤ now) (h1 : now < 64) :
    Calls Yba.prog 14 #[ptr nb 0, qz (.slice (some ⟨kb, 0, none⟩) xs.length c), .int .i64 now] w fun e w' => e = .returned (.tuple #[.slice none 0 0, .bool false]) ∧
      ∃ κ' eb ab, (∀ b, b < w.heap.size → κ' b = κ b) ∧ Inv w' κ' nb mb (N : Int) K F (addL N (newEnt eb ab (joinB xs) now) L) ∧ Fr κ w w' := by
  have HK : Hid (∀ w1 : World, w.grownBy w1 none → Calls Yba.prog 28 #[ptr nb 112, qz (.slice (some ⟨kb, 0, none⟩) xs.length c)] w1 fun e w' => e = .returned (.bool true) ∧ w1.grownBy w' none) := fun w1 g => by
    refine (keeps_any nb N K _ _ c w1 (cell_grown I.cN g) (cell_grown I.cK g) hx).mono ?_
    rintro e w' ⟨rfl, h⟩
    exact ⟨by simp only [hyes]; simp, h⟩
  have HQ : Hid (∀ w1 : World, w.grownBy w1 none → Calls Yba.prog 29 #[.slice (some ⟨kb, 0, none⟩) xs.length c] w1 fun e w' => e = .returned (.string (joinB xs)) ∧ w1.grownBy w' none) := fun w1 g => by
    have k1 := hkw.grown g
    refine (query_any kb c xs w1 k1.2 k1.1 hx hc hk).mono ?_
    rintro e w' ⟨rfl, h⟩
    exact ⟨rfl, ⟨h.os, h.tape, h.output, h.size, fun b hb _ => h.block b hb⟩⟩
  have HI : Hid (∀ w2 : World, w.grownBy w2 none → Inv w2 κ nb mb (N : Int) K F L) := fun w2 g => I.grow g.size (fun _ _ _ => rfl) (fun b hb _ => g.block b hb (by simp))
  have HA : Hid (∀ w2 : World, Inv w2 κ nb mb (N : Int) K F L → Calls Yba.prog 32 #[ptr nb 112, ptr w2.heap.size 0] (w2.alloc (.cells #[.string (joinB xs), .slice none 0 0, .bool false, .int .i64 now] 105)) fun r w' => r = .returned (.tuple #[]) ∧
      ∃ κ', (∀ b, b < w2.heap.size → κ' b = κ b) ∧ Inv w' κ' nb mb (N : Int) K F (addL N (newEnt (w2.heap.size + 1) w2.heap.size (joinB xs) now) L) ∧ Fr κ w2 w') := fun w2 I2 => add_new I2 hl hheld hN hk hnk h0 h1
  have HL : Hid (∀ w2 : World, Inv w2 κ nb mb (N : Int) K F L → (Instr.lookup 67 (.map (some mb)) (.string (joinB xs)) false).run Yba.prog w2 = .ok (.pointer none) w2 ∧ w2.cell? ⟨nb, 116, none⟩ = some (.map (some mb))) := fun w2 I2 => ⟨look_miss I2 hk hnk, I2.cm⟩
  clear I hkw hnk hk hyes
  generalize joinB xs = key at *
  generalize xs.length = n at *
  go_enter Yba.func14, Yba.ntmps14
  go_wp2_with (first
    | (refine wpList_load_row rfl 84 (.tmp 4) rfl w.heap.size rfl 84 _ (0, 0) _ heap_new Yba.underlying84 rfl (info84 _ rfl) ?_)
    | (go_at_call 28; refine Calls.mono (HK.out _ (World.grownBy_alloc w _ none)) ?_; rintro e w1 ⟨rfl, hg⟩; have hg1 : w.grownBy w1 none := grown_trans (World.grownBy_alloc w _ none) hg; have ck : w1.cell? ⟨w.heap.size, 0, none⟩ = some (.slice (some ⟨kb, 0, none⟩) n c) := cell_grown (cell_new rfl) hg; have HG1 : Hid _ := hg1; clear hg hg1)
    | (go_at_call 29; refine Calls.mono (HQ.out _ HG1.out) ?_; rintro e w2 ⟨rfl, hg⟩; have HG2 : Hid (w.grownBy w2 none) := grown_trans HG1.out hg; obtain ⟨hlk, hcm⟩ := HL.out w2 (HI.out w2 HG2.out); clear hg)
    | (go_at_call 32; refine Calls.mono (HA.out _ (HI.out _ HG2.out)) ?_; rintro e w3 ⟨rfl, hr⟩; have HR : Hid _ := hr; clear hr))
  go_ret2
  obtain ⟨κ', q1, q2, q3⟩ := HR.out
  have g := HG2.out
  refine ⟨rfl, κ', _, _, fun b hb => q1 b (Nat.lt_of_lt_of_le hb g.size), q2, (Fr.of_grown g).trans q3 (fun _ _ => rfl)⟩
end Go.Proofs.Ybulkdbks

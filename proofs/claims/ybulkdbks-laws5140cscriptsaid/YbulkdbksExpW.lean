import Derived.Test.YbulkdbksMissW
namespace Go.Proofs.Ybulkdbks
open Go Go.RowKit

theorem eqp68 (w : World) (b i : Nat) : (binOp .neq 68 (ptr b i) (.pointer none)).run Yba.prog w = .ok (.bool true) w ∧ (binOp .eql 68 (ptr b i) (.pointer none)).run Yba.prog w = .ok (.bool false) w := ⟨by kernel_rfl, by kernel_rfl⟩

theorem exp_inv {w : World} {κ : Nat → Nat} {nb mb : Nat} {N K F now : Int} {L : List Ent} {e : Ent} (I : Inv w κ nb mb N K F L) (he : e ∈ L) (h0 : 0 ≤ now) (h1 : now < 64) :
    Calls Yba.prog 30 #[ptr nb 112, ptr e.eb 0, .int .i64 now] w fun r w' => r = .returned (.bool (decide (F ≤ now - e.since))) ∧ ∃ d, w' = dr w d := by
  have E := I.ents e he
  exact expired_any nb e.eb e.ab _ _ _ e.since now F w E.ans E.c3 I.cF E.sz.1 E.sz.2 h0 h1

set_option maxHeartbeats 2000000 in
set_option maxRecDepth 100000 in
theorem kept_expired {w : World} {κ : Nat → Nat} {nb mb N c kb : Nat} {K F now : Int} {l1 l2 : List Ent} {e : Ent} {xs : List ByteArray} (I : Inv w κ nb mb (N : Int) K F (l1 ++ e :: l2)) (hl : (l1 ++ e :: l2).length ≤ 900) (hheld : heldOf (l1 ++ e :: l2) ≤ 90000) (hN : N ≤ 100)
    (hkw : KwAt w kb xs) (hx : xs.length ≤ 10) (hc : xs.length ≤ c) (hyes : 0 < (N : Int) ∧ (xs.length : Int) ≤ K) (hke : e.key = joinB xs) (hexp : F ≤ now - e.since) (h0 : 0 ≤ now) (h1 : now < 64) :
    Calls Yba.prog 14 #[ptr nb 0, qz (.slice (some ⟨kb, 0, none⟩) xs.length c), .int .i64 now] w fun r w' => r = .returned (.tuple #[.slice none 0 0, .bool false]) ∧
      ∃ κ' eb ab, (∀ b, b < w.heap.size → κ' b = κ b) ∧ Inv w' κ' nb mb (N : Int) K F (addL N (newEnt eb ab (joinB xs) now) (l1 ++ l2)) ∧ Fr κ w w' := by
  have hk : (joinB xs).size ≤ 100 := by rw [← hke]; exact (I.ents e (by simp)).kz
  have HK : Hid (∀ w1 : World, w.grownBy w1 none → Calls Yba.prog 28 #[ptr nb 112, qz (.slice (some ⟨kb, 0, none⟩) xs.length c)] w1 fun e w' => e = .returned (.bool true) ∧ w1.grownBy w' none) := fun w1 g => by
    refine (keeps_any nb N K _ _ c w1 (cell_grown I.cN g) (cell_grown I.cK g) hx).mono ?_
    rintro e w' ⟨rfl, h⟩
    exact ⟨by simp only [hyes]; simp, h⟩
  have HQ : Hid (∀ w1 : World, w.grownBy w1 none → Calls Yba.prog 29 #[.slice (some ⟨kb, 0, none⟩) xs.length c] w1 fun e w' => e = .returned (.string (joinB xs)) ∧ w1.grownBy w' none) := fun w1 g => by
    have k1 := hkw.grown g
    refine (query_any kb c xs w1 k1.2 k1.1 hx hc hk).mono ?_
    rintro e w' ⟨rfl, h⟩
    exact ⟨rfl, ⟨h.os, h.tape, h.output, h.size, fun b hb _ => h.block b hb⟩⟩
  have HI : Hid (∀ w2 : World, w.grownBy w2 none → Inv w2 κ nb mb (N : Int) K F (l1 ++ e :: l2)) := fun w2 g => I.grow g.size (fun _ _ _ => rfl) (fun b hb _ => g.block b hb (by simp))
  have hnk : ∀ x ∈ l1 ++ l2, x.key ≠ joinB xs := fun x hx h => by
    have nk := I.nk
    rw [List.map_append, List.map_cons] at nk
    refine (nodup_mid nk).2 ?_
    rw [hke, ← h, ← List.map_append]
    exact List.mem_map.2 ⟨x, hx, rfl⟩
  have hlen : (l1 ++ l2).length ≤ 900 := by simp at hl ⊢; omega
  have hhe : heldOf (l1 ++ l2) ≤ 90000 := by have := heldOf_mid l1 l2 e; omega
  have HA : Hid (∀ w2 : World, Inv w2 κ nb mb (N : Int) K F (l1 ++ l2) → Calls Yba.prog 32 #[ptr nb 112, ptr w2.heap.size 0] (w2.alloc (.cells #[.string (joinB xs), .slice none 0 0, .bool false, .int .i64 now] 105)) fun r w' => r = .returned (.tuple #[]) ∧
      ∃ κ', (∀ b, b < w2.heap.size → κ' b = κ b) ∧ Inv w' κ' nb mb (N : Int) K F (addL N (newEnt (w2.heap.size + 1) w2.heap.size (joinB xs) now) (l1 ++ l2)) ∧ Fr κ w2 w') := fun w2 I2 => add_new I2 hlen hhe hN hk hnk h0 h1
  have HL : Hid (∀ w2 : World, Inv w2 κ nb mb (N : Int) K F (l1 ++ e :: l2) → (Instr.lookup 67 (.map (some mb)) (.string (joinB xs)) false).run Yba.prog w2 = .ok (ptr e.eb 0) w2 ∧ w2.cell? ⟨nb, 116, none⟩ = some (.map (some mb))) := fun w2 I2 => ⟨by rw [← hke]; exact look_hit I2 (by simp), I2.cm⟩
  have HE : Hid (∀ w2 : World, Inv w2 κ nb mb (N : Int) K F (l1 ++ e :: l2) → Calls Yba.prog 30 #[ptr nb 112, ptr e.eb 0, .int .i64 now] w2 fun r w' => r = .returned (.bool true) ∧ ∃ d, w' = dr w2 d) := fun w2 I2 => by
    refine (exp_inv I2 (by simp) h0 h1).mono ?_
    rintro r w' ⟨rfl, h⟩
    exact ⟨by simp [hexp], h⟩
  have HD : Hid (∀ w2 : World, Inv w2 κ nb mb (N : Int) K F (l1 ++ e :: l2) → Calls Yba.prog 31 #[ptr nb 112, ptr e.eb 0] w2 fun r w' => r = .returned (.tuple #[]) ∧ Inv w' κ nb mb (N : Int) K F (l1 ++ l2) ∧ Fr κ w2 w') := fun w2 I2 => drop_any I2 (by omega) (by omega)
  clear I hkw hnk hk hyes hke hlen hhe hl hheld hexp
  generalize joinB xs = key at *
  generalize xs.length = n at *
  go_enter Yba.func14, Yba.ntmps14
  go_wp2_with (first
    | (refine wpList_load_row rfl 84 (.tmp 4) rfl w.heap.size rfl 84 _ (0, 0) _ heap_new Yba.underlying84 rfl (info84 _ rfl) ?_)
    | (go_at_call 28; refine Calls.mono (HK.out _ (World.grownBy_alloc w _ none)) ?_; rintro e w1 ⟨rfl, hg⟩; have hg1 : w.grownBy w1 none := grown_trans (World.grownBy_alloc w _ none) hg; have ck : w1.cell? ⟨w.heap.size, 0, none⟩ = some (.slice (some ⟨kb, 0, none⟩) n c) := cell_grown (cell_new rfl) hg; have HG1 : Hid _ := hg1; clear hg hg1)
    | (go_at_call 29; refine Calls.mono (HQ.out _ HG1.out) ?_; rintro e w2 ⟨rfl, hg⟩; have HG2 : Hid (w.grownBy w2 none) := grown_trans HG1.out hg; obtain ⟨hlk, hcm⟩ := HL.out w2 (HI.out w2 HG2.out); clear hg)
    | (go_at_call 30; refine Calls.mono (HE.out _ (HI.out _ HG2.out)) ?_; rintro r w3 ⟨rfl, d, hw3⟩; have HI3 : Hid (Inv w3 κ nb mb (N : Int) K F (l1 ++ e :: l2)) := (by show Inv _ _ _ _ _ _ _ _; rw [hw3]; exact (HI.out _ HG2.out).dr d); have HF3 : Hid (Fr κ w w3) := (by show Fr _ _ _; rw [hw3]; exact (Fr.of_grown HG2.out).dr d); clear hw3)
    | (go_at_call 31; refine Calls.mono (HD.out _ HI3.out) ?_; rintro r w4 ⟨rfl, I4, fr4⟩; have HI4 : Hid _ := I4; have HF4 : Hid _ := fr4; clear I4 fr4)
    | (go_at_call 32; refine Calls.mono (HA.out _ HI4.out) ?_; rintro r w5 ⟨rfl, hr⟩; have HR : Hid _ := hr; clear hr))
  go_ret2
  obtain ⟨κ', q1, q2, q3⟩ := HR.out
  have f3 : Fr κ w _ := HF3.out.trans HF4.out (fun _ _ => rfl)
  exact ⟨rfl, κ', _, _, fun b hb => q1 b (Nat.lt_of_lt_of_le hb f3.size), q2, f3.trans q3 (fun _ _ => rfl)⟩
end Go.Proofs.Ybulkdbks

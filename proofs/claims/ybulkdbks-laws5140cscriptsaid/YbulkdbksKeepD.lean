import Derived.Test.YbulkdbksKeep
namespace Go.Proofs.Ybulkdbks
open Go Go.RowKit

set_option maxHeartbeats 2000000 in
set_option maxRecDepth 100000 in
theorem keep_exp {w : World} {κ : Nat → Nat} {nb mb N c kb : Nat} {K F now : Int} {l1 l2 : List Ent} {e : Ent} {xs : List ByteArray} {ms : Value} (I : Inv w κ nb mb (N : Int) K F (l1 ++ e :: l2)) (hl : (l1 ++ e :: l2).length ≤ 900) (hheld : heldOf (l1 ++ e :: l2) ≤ 90000)
    (hkw : KwAt w kb xs) (hx : xs.length ≤ 10) (hc : xs.length ≤ c) (hyes : 0 < (N : Int) ∧ (xs.length : Int) ≤ K) (hke : e.key = joinB xs) (hexp : F ≤ now - e.since) (h0 : 0 ≤ now) (h1 : now < 64) :
    Calls Yba.prog 21 #[ptr nb 0, qz (.slice (some ⟨kb, 0, none⟩) xs.length c), ms, .int .i64 now] w fun r w' => r = .returned (.tuple #[]) ∧ Inv w' κ nb mb (N : Int) K F (l1 ++ l2) ∧ Fr κ w w' := by
  have hk : (joinB xs).size ≤ 100 := by rw [← hke]; exact (I.ents e (by simp)).kz
  have HK : Hid (∀ w1 : World, w.grownBy w1 none → Calls Yba.prog 28 #[ptr nb 112, qz (.slice (some ⟨kb, 0, none⟩) xs.length c)] w1 fun e w' => e = .returned (.bool true) ∧ w1.grownBy w' none) := fun w1 g => keeps_yes I hx hyes w1 g
  have HQ : Hid (∀ w1 : World, w.grownBy w1 none → Calls Yba.prog 29 #[.slice (some ⟨kb, 0, none⟩) xs.length c] w1 fun e w' => e = .returned (.string (joinB xs)) ∧ w1.grownBy w' none) := fun w1 g => query_grown hkw hx hc hk w1 g
  have HI : Hid (∀ w2 : World, w.grownBy w2 none → Inv w2 κ nb mb (N : Int) K F (l1 ++ e :: l2)) := fun w2 g => I.grow g.size (fun _ _ _ => rfl) (fun b hb _ => g.block b hb (by simp))
  have HL : Hid (∀ w2 : World, w.grownBy w2 none → (Instr.lookup 67 (.map (some mb)) (.string (joinB xs)) false).run Yba.prog w2 = .ok (ptr e.eb 0) w2 ∧ w2.cell? ⟨nb, 116, none⟩ = some (.map (some mb))) := fun w2 g => ⟨by rw [← hke]; exact look_hit (HI.out w2 g) (by simp), (HI.out w2 g).cm⟩
  have HE : Hid (∀ w2 : World, Inv w2 κ nb mb (N : Int) K F (l1 ++ e :: l2) → Calls Yba.prog 30 #[ptr nb 112, ptr e.eb 0, .int .i64 now] w2 fun r w' => r = .returned (.bool true) ∧ ∃ d, w' = dr w2 d) := fun w2 I2 => by
    refine (exp_inv I2 (by simp) h0 h1).mono ?_
    rintro r w' ⟨rfl, h⟩
    exact ⟨by simp [hexp], h⟩
  have HD : Hid (∀ w2 : World, Inv w2 κ nb mb (N : Int) K F (l1 ++ e :: l2) → Calls Yba.prog 31 #[ptr nb 112, ptr e.eb 0] w2 fun r w' => r = .returned (.tuple #[]) ∧ Inv w' κ nb mb (N : Int) K F (l1 ++ l2) ∧ Fr κ w2 w') := fun w2 I2 => drop_any I2 (by omega) (by omega)
  clear I hkw hk hyes hke hl hheld hexp
  generalize joinB xs = key at *
  generalize xs.length = n at *
  go_enter Yba.func21, Yba.ntmps21
  go_upto_region 3 with (first
    | (refine wpList_load_row rfl 84 (.tmp 5) rfl w.heap.size rfl 84 _ (0, 0) _ heap_new Yba.underlying84 rfl (info84 _ rfl) ?_)
    | (go_at_call 28; refine Calls.mono (HK.out _ (World.grownBy_alloc w _ none)) ?_; rintro e w1 ⟨rfl, hg⟩; have hg1 : w.grownBy w1 none := grown_trans (World.grownBy_alloc w _ none) hg; have ck : w1.cell? ⟨w.heap.size, 0, none⟩ = some (.slice (some ⟨kb, 0, none⟩) n c) := cell_grown (cell_new rfl) hg; have HG1 : Hid _ := hg1; clear hg hg1))
  go_cut [9] (fun e' wx => e' = ptr e.eb 0 ∧ w.grownBy wx none)
  case first =>
    have hcm1 := (HL.out w1 HG1.out).2
    have HQ1 : Hid (∀ n', Calls Yba.prog 29 #[.slice (some ⟨kb, 0, none⟩) n c] (w1.drewN n') fun e w' => e = .returned (.string key) ∧ w.grownBy w' none) := fun n' => (HQ.out _ (gdN HG1.out n')).mono (fun e w' h => ⟨h.1, grown_trans (gdN HG1.out n') h.2⟩)
    go_region_with ((go_at_call 29; refine Calls.mono (HQ1.out _) ?_; rintro e w2 ⟨rfl, hg⟩; have HG2 : Hid (w.grownBy w2 none) := hg; obtain ⟨hlk, hcm⟩ := HL.out w2 HG2.out; clear hg))
    all_goals
      go_wp2_with fail
      go_meet
      exact ⟨rfl, HG2.out⟩
  case rest =>
    obtain ⟨rfl, hg⟩ := hcut
    have HG : Hid _ := hg
    have HI2 : Hid _ := HI.out wc hg
    clear hg HL HQ HK
    go_wp2_with (first
      | (go_at_call 30; refine Calls.mono (HE.out _ HI2.out) ?_; rintro r w3 ⟨rfl, d, hw3⟩; have HI3 : Hid (Inv w3 κ nb mb (N : Int) K F (l1 ++ e :: l2)) := (by show Inv _ _ _ _ _ _ _ _; rw [hw3]; exact HI2.out.dr d); have HF3 : Hid (Fr κ w w3) := (by show Fr _ _ _; rw [hw3]; exact (Fr.of_grown HG.out).dr d); clear hw3)
      | (go_at_call 31; refine Calls.mono (HD.out _ HI3.out) ?_; rintro r w4 ⟨rfl, I4, fr4⟩; have HI4 : Hid _ := I4; have HF4 : Hid _ := fr4; clear I4 fr4))
    refine bodyPost_ret (results_none rfl _ _ _) rfl ?_
    exact ⟨rfl, HI4.out, HF3.out.trans HF4.out (fun _ _ => rfl)⟩

set_option maxHeartbeats 2000000 in
set_option maxRecDepth 100000 in
theorem keep_big {w : World} {κ : Nat → Nat} {nb mb N c kb m cap : Nat} {K F now : Int} {l1 l2 : List Ent} {e : Ent} {xs : List ByteArray} {ao : Option Addr} (I : Inv w κ nb mb (N : Int) K F (l1 ++ e :: l2)) (hl : (l1 ++ e :: l2).length ≤ 900) (hheld : heldOf (l1 ++ e :: l2) ≤ 90000)
    (hkw : KwAt w kb xs) (hx : xs.length ≤ 10) (hc : xs.length ≤ c) (hyes : 0 < (N : Int) ∧ (xs.length : Int) ≤ K) (hke : e.key = joinB xs) (hexp : ¬ F ≤ now - e.since) (hbig : N < m) (h0 : 0 ≤ now) (h1 : now < 64) :
    Calls Yba.prog 21 #[ptr nb 0, qz (.slice (some ⟨kb, 0, none⟩) xs.length c), .slice ao m cap, .int .i64 now] w fun r w' => r = .returned (.tuple #[]) ∧ Inv w' κ nb mb (N : Int) K F (l1 ++ l2) ∧ Fr κ w w' := by
  have hk : (joinB xs).size ≤ 100 := by rw [← hke]; exact (I.ents e (by simp)).kz
  have HK : Hid (∀ w1 : World, w.grownBy w1 none → Calls Yba.prog 28 #[ptr nb 112, qz (.slice (some ⟨kb, 0, none⟩) xs.length c)] w1 fun e w' => e = .returned (.bool true) ∧ w1.grownBy w' none) := fun w1 g => keeps_yes I hx hyes w1 g
  have HQ : Hid (∀ w1 : World, w.grownBy w1 none → Calls Yba.prog 29 #[.slice (some ⟨kb, 0, none⟩) xs.length c] w1 fun e w' => e = .returned (.string (joinB xs)) ∧ w1.grownBy w' none) := fun w1 g => query_grown hkw hx hc hk w1 g
  have HI : Hid (∀ w2 : World, w.grownBy w2 none → Inv w2 κ nb mb (N : Int) K F (l1 ++ e :: l2)) := fun w2 g => I.grow g.size (fun _ _ _ => rfl) (fun b hb _ => g.block b hb (by simp))
  have HL : Hid (∀ w2 : World, w.grownBy w2 none → (Instr.lookup 67 (.map (some mb)) (.string (joinB xs)) false).run Yba.prog w2 = .ok (ptr e.eb 0) w2 ∧ w2.cell? ⟨nb, 116, none⟩ = some (.map (some mb))) := fun w2 g => ⟨by rw [← hke]; exact look_hit (HI.out w2 g) (by simp), (HI.out w2 g).cm⟩
  have HE : Hid (∀ w2 : World, Inv w2 κ nb mb (N : Int) K F (l1 ++ e :: l2) → Calls Yba.prog 30 #[ptr nb 112, ptr e.eb 0, .int .i64 now] w2 fun r w' => r = .returned (.bool false) ∧ ∃ d, w' = dr w2 d) := fun w2 I2 => by
    refine (exp_inv I2 (by simp) h0 h1).mono ?_
    rintro r w' ⟨rfl, h⟩
    exact ⟨by simp; omega, h⟩
  have HD : Hid (∀ w2 : World, Inv w2 κ nb mb (N : Int) K F (l1 ++ e :: l2) → Calls Yba.prog 31 #[ptr nb 112, ptr e.eb 0] w2 fun r w' => r = .returned (.tuple #[]) ∧ Inv w' κ nb mb (N : Int) K F (l1 ++ l2) ∧ Fr κ w2 w') := fun w2 I2 => drop_any I2 (by omega) (by omega)
  have hd : decide ((N : Int) < (m : Int)) = true := by simp; omega
  clear I hkw hk hyes hke hl hheld hexp
  generalize joinB xs = key at *
  generalize xs.length = n at *
  go_enter Yba.func21, Yba.ntmps21
  go_upto_region 3 with (first
    | (refine wpList_load_row rfl 84 (.tmp 5) rfl w.heap.size rfl 84 _ (0, 0) _ heap_new Yba.underlying84 rfl (info84 _ rfl) ?_)
    | (go_at_call 28; refine Calls.mono (HK.out _ (World.grownBy_alloc w _ none)) ?_; rintro e w1 ⟨rfl, hg⟩; have hg1 : w.grownBy w1 none := grown_trans (World.grownBy_alloc w _ none) hg; have ck : w1.cell? ⟨w.heap.size, 0, none⟩ = some (.slice (some ⟨kb, 0, none⟩) n c) := cell_grown (cell_new rfl) hg; have HG1 : Hid _ := hg1; clear hg hg1))
  go_cut [9] (fun e' wx => e' = ptr e.eb 0 ∧ w.grownBy wx none)
  case first =>
    have hcm1 := (HL.out w1 HG1.out).2
    have HQ1 : Hid (∀ n', Calls Yba.prog 29 #[.slice (some ⟨kb, 0, none⟩) n c] (w1.drewN n') fun e w' => e = .returned (.string key) ∧ w.grownBy w' none) := fun n' => (HQ.out _ (gdN HG1.out n')).mono (fun e w' h => ⟨h.1, grown_trans (gdN HG1.out n') h.2⟩)
    go_region_with ((go_at_call 29; refine Calls.mono (HQ1.out _) ?_; rintro e w2 ⟨rfl, hg⟩; have HG2 : Hid (w.grownBy w2 none) := hg; obtain ⟨hlk, hcm⟩ := HL.out w2 HG2.out; clear hg))
    all_goals
      go_wp2_with fail
      go_meet
      exact ⟨rfl, HG2.out⟩
  case rest =>
    obtain ⟨rfl, hg⟩ := hcut
    have HG : Hid _ := hg
    have HI2 : Hid _ := HI.out wc hg
    clear hg HL HQ HK
    go_wp2_with (first
      | (go_at_call 30; refine Calls.mono (HE.out _ HI2.out) ?_; rintro r w3 ⟨rfl, d, hw3⟩; have HI3 : Hid (Inv w3 κ nb mb (N : Int) K F (l1 ++ e :: l2)) := (by show Inv _ _ _ _ _ _ _ _; rw [hw3]; exact HI2.out.dr d); have HF3 : Hid (Fr κ w w3) := (by show Fr _ _ _; rw [hw3]; exact (Fr.of_grown HG.out).dr d); have cN3 := HI3.out.cN; clear hw3)
      | (go_at_call 31; refine Calls.mono (HD.out _ HI3.out) ?_; rintro r w4 ⟨rfl, I4, fr4⟩; have HI4 : Hid _ := I4; have HF4 : Hid _ := fr4; clear I4 fr4))
    refine bodyPost_ret (results_none rfl _ _ _) rfl ?_
    exact ⟨rfl, HI4.out, HF3.out.trans HF4.out (fun _ _ => rfl)⟩
end Go.Proofs.Ybulkdbks

import Derived.Test.YbulkdbksHitW
namespace Go.Proofs.Ybulkdbks
open Go Go.RowKit

theorem keeps_yes {w : World} {κ : Nat → Nat} {nb mb n c : Nat} {N K F : Int} {L : List Ent} {ao : Option Addr} (I : Inv w κ nb mb N K F L) (hx : n ≤ 10) (hyes : 0 < N ∧ (n : Int) ≤ K) (w1 : World) (g : w.grownBy w1 none) :
    Calls Yba.prog 28 #[ptr nb 112, qz (.slice ao n c)] w1 fun e w' => e = .returned (.bool true) ∧ w1.grownBy w' none := by
  refine (keeps_any nb N K _ _ c w1 (cell_grown I.cN g) (cell_grown I.cK g) hx).mono ?_
  rintro e w' ⟨rfl, h⟩
  exact ⟨by simp only [hyes]; simp, h⟩

theorem query_grown {w : World} {kb c : Nat} {xs : List ByteArray} (hkw : KwAt w kb xs) (hx : xs.length ≤ 10) (hc : xs.length ≤ c) (hk : (joinB xs).size ≤ 100) (w1 : World) (g : w.grownBy w1 none) :
    Calls Yba.prog 29 #[.slice (some ⟨kb, 0, none⟩) xs.length c] w1 fun e w' => e = .returned (.string (joinB xs)) ∧ w1.grownBy w' none := by
  have k1 := hkw.grown g
  refine (query_any kb c xs w1 k1.2 k1.1 hx hc hk).mono ?_
  rintro e w' ⟨rfl, h⟩
  exact ⟨rfl, ⟨h.os, h.tape, h.output, h.size, fun b hb _ => h.block b hb⟩⟩

set_option maxHeartbeats 1000000 in
set_option maxRecDepth 100000 in
theorem keep_not {w : World} (nb : Nat) (N K now : Int) (ao : Option Addr) (n c : Nat) (ms : Value) (cN : w.cell? ⟨nb, 112, none⟩ = some (.int .i64 N)) (cK : w.cell? ⟨nb, 113, none⟩ = some (.int .i64 K)) (hn : n ≤ 10) (hno : ¬ (0 < N ∧ (n : Int) ≤ K)) :
    Calls Yba.prog 21 #[ptr nb 0, qz (.slice ao n c), ms, .int .i64 now] w fun e w' => e = .returned (.tuple #[]) ∧ w.grownBy w' none := by
  have HK : Hid (∀ w1 : World, w.grownBy w1 none → Calls Yba.prog 28 #[ptr nb 112, qz (.slice ao n c)] w1 fun e w' => e = .returned (.bool false) ∧ w1.grownBy w' none) := fun w1 g => by
    refine (keeps_any nb N K ao n c w1 (cell_grown cN g) (cell_grown cK g) hn).mono ?_
    rintro e w' ⟨rfl, h⟩
    exact ⟨by simp; exact fun h1 => by omega, h⟩
  go_enter Yba.func21, Yba.ntmps21
  go_wp2_with (first | (refine wpList_load_row rfl 84 (.tmp 5) rfl w.heap.size rfl 84 _ (0, 0) _ heap_new Yba.underlying84 rfl (info84 _ rfl) ?_) | (go_at_call 28; refine Calls.mono (HK.out _ (World.grownBy_alloc w _ none)) ?_; rintro e w' ⟨rfl, hg⟩; have HG : Hid _ := hg; clear hg))
  refine bodyPost_ret (results_none rfl _ _ _) rfl ?_
  exact ⟨rfl, grown_trans (World.grownBy_alloc w _ none) HG.out⟩

set_option maxHeartbeats 2000000 in
set_option maxRecDepth 100000 in
theorem keep_miss {w : World} {κ : Nat → Nat} {nb mb N c kb : Nat} {K F now : Int} {L : List Ent} {xs : List ByteArray} {ms : Value} (I : Inv w κ nb mb (N : Int) K F L)
    (hkw : KwAt w kb xs) (hx : xs.length ≤ 10) (hc : xs.length ≤ c) (hk : (joinB xs).size ≤ 100) (hyes : 0 < (N : Int) ∧ (xs.length : Int) ≤ K) (hnk : ∀ e ∈ L, e.key ≠ joinB xs) :
    Calls Yba.prog 21 #[ptr nb 0, qz (.slice (some ⟨kb, 0, none⟩) xs.length c), ms, .int .i64 now] w fun r w' => r = .returned (.tuple #[]) ∧ w.grownBy w' none := by
  have HK : Hid (∀ w1 : World, w.grownBy w1 none → Calls Yba.prog 28 #[ptr nb 112, qz (.slice (some ⟨kb, 0, none⟩) xs.length c)] w1 fun e w' => e = .returned (.bool true) ∧ w1.grownBy w' none) := fun w1 g => keeps_yes I hx hyes w1 g
  have HQ : Hid (∀ w1 : World, w.grownBy w1 none → Calls Yba.prog 29 #[.slice (some ⟨kb, 0, none⟩) xs.length c] w1 fun e w' => e = .returned (.string (joinB xs)) ∧ w1.grownBy w' none) := fun w1 g => query_grown hkw hx hc hk w1 g
  have HL : Hid (∀ w2 : World, w.grownBy w2 none → (Instr.lookup 67 (.map (some mb)) (.string (joinB xs)) false).run Yba.prog w2 = .ok (.pointer none) w2 ∧ w2.cell? ⟨nb, 116, none⟩ = some (.map (some mb))) := fun w2 g => by
    have I2 : Inv w2 κ nb mb (N : Int) K F L := I.grow g.size (fun _ _ _ => rfl) (fun b hb _ => g.block b hb (by simp))
    exact ⟨look_miss I2 hk hnk, I2.cm⟩
  clear I hkw hnk hk hyes
  generalize joinB xs = key at *
  generalize xs.length = n at *
  go_enter Yba.func21, Yba.ntmps21
  go_upto_region 3 with (first
    | (refine wpList_load_row rfl 84 (.tmp 5) rfl w.heap.size rfl 84 _ (0, 0) _ heap_new Yba.underlying84 rfl (info84 _ rfl) ?_)
    | (go_at_call 28; refine Calls.mono (HK.out _ (World.grownBy_alloc w _ none)) ?_; rintro e w1 ⟨rfl, hg⟩; have hg1 : w.grownBy w1 none := grown_trans (World.grownBy_alloc w _ none) hg; have ck : w1.cell? ⟨w.heap.size, 0, none⟩ = some (.slice (some ⟨kb, 0, none⟩) n c) := cell_grown (cell_new rfl) hg; have HG1 : Hid _ := hg1; clear hg hg1))
  go_cut [9] (fun e wx => e = .pointer none ∧ w.grownBy wx none)
  case first =>
    have hcm1 := (HL.out w1 HG1.out).2
    have HQ1 : Hid (∀ n', Calls Yba.prog 29 #[.slice (some ⟨kb, 0, none⟩) n c] (w1.drewN n') fun e w' => e = .returned (.string key) ∧ w.grownBy w' none) := fun n' => (HQ.out _ (gdN HG1.out n')).mono (fun e w' h => ⟨h.1, grown_trans (gdN HG1.out n') h.2⟩)
    go_region_with ((go_at_call 29; refine Calls.mono (HQ1.out _) ?_; rintro e w2 ⟨rfl, hg⟩; have HG2 : Hid (w.grownBy w2 none) := hg; obtain ⟨hlk, hcm⟩ := HL.out w2 HG2.out; clear hg))
    all_goals
      go_wp2_with fail
      go_meet
      exact ⟨rfl, HG2.out⟩
  case rest =>
    obtain ⟨rfl, hg⟩ := hcut
    have HG : Hid _ := hg
    clear hg
    go_wp2_with fail
    refine bodyPost_ret (results_none rfl _ _ _) rfl ?_
    exact ⟨rfl, HG.out⟩
end Go.Proofs.Ybulkdbks

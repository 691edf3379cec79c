import Derived.Test.YbulkdbksExpW
namespace Go.Proofs.Ybulkdbks
open Go Go.RowKit

theorem CRow.eqIn {w0 w : World} {m : Nat} (h : CRow w0 w w0.heap.size m m) : EqIn w (.slice (some ⟨w0.heap.size, 0, none⟩) m m) m :=
  MsOk.eqIn (κ := fun _ => 1) (Or.inr (h.ok (fun _ _ => rfl)))

set_option maxHeartbeats 2000000 in
set_option maxRecDepth 100000 in
theorem kept_hit {w : World} {κ : Nat → Nat} {nb mb N c kb : Nat} {K F now : Int} {l1 l2 : List Ent} {e : Ent} {xs : List ByteArray} (I : Inv w κ nb mb (N : Int) K F (l1 ++ e :: l2)) (_hl : (l1 ++ e :: l2).length ≤ 900) (_hheld : heldOf (l1 ++ e :: l2) ≤ 90000) (_hN : N ≤ 100)
    (hkw : KwAt w kb xs) (hx : xs.length ≤ 10) (hc : xs.length ≤ c) (hyes : 0 < (N : Int) ∧ (xs.length : Int) ≤ K) (hke : e.key = joinB xs) (hexp : ¬ F ≤ now - e.since) (h0 : 0 ≤ now) (h1 : now < 64) :
    Calls Yba.prog 14 #[ptr nb 0, qz (.slice (some ⟨kb, 0, none⟩) xs.length c), .int .i64 now] w fun r w' => ∃ b, r = .returned (.tuple #[.slice (some ⟨b, 0, none⟩) e.m e.m, .bool e.come]) ∧ EqIn w' (.slice (some ⟨b, 0, none⟩) e.m e.m) e.m ∧ Inv w' κ nb mb (N : Int) K F (e :: (l1 ++ l2)) ∧ Fr κ w w' := by
  have hk : (joinB xs).size ≤ 100 := by rw [← hke]; exact (I.ents e (by simp)).kz
  have HK : Hid (∀ w1 : World, w.grownBy w1 none → Calls Yba.prog 28 #[ptr nb 112, qz (.slice (some ⟨kb, 0, none⟩) xs.length c)] w1 fun e w' => e = .returned (.bool true) ∧ w1.grownBy w' none) := fun w1 g => by
    refine (keeps_any nb N K _ _ c w1 (cell_grown I.cN g) (cell_grown I.cK g) hx).mono ?_
    rintro e w' ⟨rfl, h⟩
    exact ⟨by simp only [hyes]; simp, h⟩
  have HQ : Hid (∀ w1 : World, w.grownBy w1 none → Calls Yba.prog 29 #[.slice (some ⟨kb, 0, none⟩) xs.length c] w1 fun e w' => e = .returned (.string (joinB xs)) ∧ w1.grownBy w' none) := fun w1 g => by
    have k1 := hkw.grown g
    refine (query_any kb c xs w1 k1.2 k1.1 hx hc hk).mono ?_
    rintro e w' ⟨rfl, h⟩
    exact ⟨rfl, ⟨h.os, h.tape, h.output, h.size, fun b hb _ => h.block b hb⟩⟩
  have HI : Hid (∀ w2 : World, w.grownBy w2 none → Inv w2 κ nb mb (N : Int) K F (l1 ++ e :: l2)) := fun w2 g => I.grow g.size (fun _ _ _ => rfl) (fun b hb _ => g.block b hb (by simp))
  have HL : Hid (∀ w2 : World, Inv w2 κ nb mb (N : Int) K F (l1 ++ e :: l2) → (Instr.lookup 67 (.map (some mb)) (.string (joinB xs)) false).run Yba.prog w2 = .ok (ptr e.eb 0) w2 ∧ w2.cell? ⟨nb, 116, none⟩ = some (.map (some mb))) := fun w2 I2 => ⟨by rw [← hke]; exact look_hit I2 (by simp), I2.cm⟩
  have HE : Hid (∀ w2 : World, Inv w2 κ nb mb (N : Int) K F (l1 ++ e :: l2) → Calls Yba.prog 30 #[ptr nb 112, ptr e.eb 0, .int .i64 now] w2 fun r w' => r = .returned (.bool false) ∧ ∃ d, w' = dr w2 d) := fun w2 I2 => by
    refine (exp_inv I2 (by simp) h0 h1).mono ?_
    rintro r w' ⟨rfl, h⟩
    exact ⟨by simp; omega, h⟩
  have HM : Hid (∀ w2 : World, Inv w2 κ nb mb (N : Int) K F (l1 ++ e :: l2) → Calls Yba.prog 33 #[ptr nb 117, ptr e.eb 0] w2 fun r w' => r = .returned (.tuple #[]) ∧ Inv w' κ nb mb (N : Int) K F (e :: (l1 ++ l2)) ∧ Fr κ w2 w') := fun w2 I2 => front_inv I2
  have HC : Hid (∀ w2 : World, Inv w2 κ nb mb (N : Int) K F (e :: (l1 ++ l2)) → Calls Yba.prog 34 #[e.mv] w2 fun r w' => r = .returned (.slice (some ⟨w2.heap.size, 0, none⟩) e.m e.m) ∧ CRow w2 w' w2.heap.size e.m e.m) := fun w2 I2 => copy_any e.mv e.m (I2.ents e (by simp)).mz w2 (I2.ents e (by simp)).ms.src
  have HV : Hid (∀ w2 : World, Inv w2 κ nb mb (N : Int) K F (e :: (l1 ++ l2)) → w2.cell? ⟨e.eb, 3, none⟩ = some (.iface 102 (ptr e.ab 0)) ∧ w2.cell? ⟨e.ab, 1, none⟩ = some e.mv ∧ w2.cell? ⟨e.ab, 2, none⟩ = some (.bool e.come)) := fun w2 I2 => by
    have E := I2.ents e (by simp)
    refine ⟨E.c3, ?_, ?_⟩
    · unfold World.cell?; simp [E.ans]
    · unfold World.cell?; simp [E.ans]
  have ta := ta102
  clear I hkw hk hyes hke hexp
  generalize joinB xs = key at *
  generalize xs.length = n at *
  go_enter Yba.func14, Yba.ntmps14
  go_wp2_with (first
    | (refine wpList_load_row rfl 84 (.tmp 4) rfl w.heap.size rfl 84 _ (0, 0) _ heap_new Yba.underlying84 rfl (info84 _ rfl) ?_)
    | (go_at_call 28; refine Calls.mono (HK.out _ (World.grownBy_alloc w _ none)) ?_; rintro e w1 ⟨rfl, hg⟩; have hg1 : w.grownBy w1 none := grown_trans (World.grownBy_alloc w _ none) hg; have ck : w1.cell? ⟨w.heap.size, 0, none⟩ = some (.slice (some ⟨kb, 0, none⟩) n c) := cell_grown (cell_new rfl) hg; have HG1 : Hid _ := hg1; clear hg hg1)
    | (go_at_call 29; refine Calls.mono (HQ.out _ HG1.out) ?_; rintro e w2 ⟨rfl, hg⟩; have HG2 : Hid (w.grownBy w2 none) := grown_trans HG1.out hg; obtain ⟨hlk, hcm⟩ := HL.out w2 (HI.out w2 HG2.out); clear hg)
    | (go_at_call 30; refine Calls.mono (HE.out _ (HI.out _ HG2.out)) ?_; rintro r w3 ⟨rfl, d, hw3⟩; have HI3 : Hid (Inv w3 κ nb mb (N : Int) K F (l1 ++ e :: l2)) := (by show Inv _ _ _ _ _ _ _ _; rw [hw3]; exact (HI.out _ HG2.out).dr d); have HF3 : Hid (Fr κ w w3) := (by show Fr _ _ _; rw [hw3]; exact (Fr.of_grown HG2.out).dr d); clear hw3)
    | (go_at_call 33; refine Calls.mono (HM.out _ HI3.out) ?_; rintro r w4 ⟨rfl, I4, fr4⟩; obtain ⟨v3, v1, v2⟩ := HV.out w4 I4; have HI4 : Hid _ := I4; have HF4 : Hid _ := fr4; clear I4 fr4))
  have HC4 : Hid (∀ n, Calls Yba.prog 34 #[e.mv] (w4.drewN n) fun r w' => r = .returned (.slice (some ⟨w4.heap.size, 0, none⟩) e.m e.m) ∧ CRow (w4.drewN n) w' w4.heap.size e.m e.m) := fun n => HC.out _ (HI4.out.drewN n)
  go_region_with ((go_at_call 34; refine Calls.mono (HC4.out _) ?_; rintro r w5 ⟨rfl, hr⟩; have v2' : w5.cell? ⟨e.ab, 2, none⟩ = some (.bool e.come) := cell_grown (a := w4) v2 ⟨hr.gr.os, hr.gr.tape, hr.gr.output, hr.gr.size, hr.gr.block⟩; have HR : Hid (CRow w4 w5 w4.heap.size e.m e.m) := ⟨hr.wr, hr.cel, hr.ent, ⟨hr.gr.os, hr.gr.tape, hr.gr.output, hr.gr.size, hr.gr.block⟩⟩; clear hr))
  all_goals
    go_wp2_with fail
    go_ret2
    have g5 := HR.out.gr
    have f4 : Fr κ w w4 := HF3.out.trans HF4.out (fun _ _ => rfl)
    exact ⟨w4.heap.size, rfl, CRow.eqIn HR.out, HI4.out.grow g5.size (fun _ _ _ => rfl) (fun b hb _ => g5.block b hb (by simp)), f4.trans (Fr.of_grown g5) (fun _ _ => rfl)⟩
end Go.Proofs.Ybulkdbks

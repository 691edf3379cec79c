import Derived.Test.YbulkdbksPq
namespace Go.Proofs.Ybulkdbks
open Go Go.RowKit

/-- The matches handed over, as the law writes over their holders. -/
structure ZRow (B0 B1 : Nat) (w5 w : World) (m : Nat) : Prop where
  ent : ∀ j, j < m → ∃ hb, w.cell? ⟨B0, 3 * j + 2, none⟩ = some (.slice (some ⟨hb, 0, none⟩) (j % 4) (j % 4)) ∧ B0 < hb ∧ hb < B1 ∧ Wr w hb ∧ (0 < j % 4 → ∃ v, w.cell? ⟨hb, 0, none⟩ = some v)
  out : ∀ b, (b < B0 ∨ B1 ≤ b) → w.heap[b]? = w5.heap[b]?
  size : w.heap.size = w5.heap.size
  os : w.os = w5.os
  tape : w.tape = w5.tape
  output : w.output = w5.output

theorem ZRow.start {w w1 w5 : World} {m : Nat} (h : NRow w w1 w.heap.size m m) (hb : ∀ b, w.heap.size ≤ b → b < w1.heap.size → w5.heap[b]? = w1.heap[b]?) : ZRow w.heap.size w1.heap.size w5 w5 m := by
  refine ⟨fun j hj => ?_, fun _ _ => rfl, rfl, rfl, rfl, rfl⟩
  obtain ⟨_, _, hb', a3, a4, a5, a6⟩ := h.ent j hj
  have e0 := hb w.heap.size (Nat.le_refl _) h.wr.lt
  have e1 := hb hb' (Nat.le_of_lt a4) a5.lt
  refine ⟨hb', (World.cell?_of_block e0).trans a3, a4, a5.lt, ?_, fun h0 => ⟨_, (World.cell?_of_block e1).trans (a6 0 h0)⟩⟩
  obtain ⟨c, T, hc⟩ := a5
  exact ⟨c, T, e1.trans hc⟩

theorem ZRow.step {B0 B1 m hb : Nat} {w5 w : World} {v : Value} (h : ZRow B0 B1 w5 w m) (h1 : B0 < hb) (h2 : hb < B1) : ZRow B0 B1 w5 (w.setCell ⟨hb, 0, none⟩ v) m := by
  refine ⟨fun j hj => ?_, fun b hb' => ?_, ?_, h.os, h.tape, h.output⟩
  · obtain ⟨hb', a1, a2, a3, a4, a5⟩ := h.ent j hj
    refine ⟨hb', ?_, a2, a3, a4.set _ _ _, fun h0 => ?_⟩
    · rw [cs_ne rfl (fun h => by omega)]; exact a1
    · obtain ⟨u, hu⟩ := a5 h0
      by_cases e : hb = hb'
      · subst e; exact ⟨_, cs_eq rfl hu⟩
      · rw [cs_ne rfl (fun h => e h.1)]; exact ⟨u, hu⟩
  · rw [heap_set_ne (by omega)]; exact h.out b hb'
  · rw [← h.size]; simp [World.setCell]

/-- Behind it the node stands as it stood. -/
theorem ZRow.st {w0 w w1 w5 w6 : World} {cb nb mb N m : Nat} {K F : Int} {κ κ5 : Nat → Nat} {L : List Ent} (h : ZRow w.heap.size w1.heap.size w5 w6 m) (S0 : St w0 cb nb mb N K F κ L w) {L5 : List Ent} (S : St w0 cb nb mb N K F κ5 L5 w5) (hk : ∀ b, w.heap.size ≤ b → b < w1.heap.size → κ5 b = 0) : St w0 cb nb mb N K F κ5 L5 w6 := by
  have hs := h.size
  refine ⟨S.inv.grow (Nat.le_of_eq hs.symm) (fun _ _ _ => rfl) (fun b _ kb => h.out b ?_), S.held, S.kc, (h.out cb (Or.inl S0.lc)).trans S.cfg, fun b hb => ⟨(S.old b hb).1, (h.out b (Or.inl (Nat.lt_of_lt_of_le hb S0.size))).trans (S.old b hb).2⟩, h.os.trans S.os, h.tape.trans S.tape, h.output.trans S.output, by rw [hs]; exact S.size⟩
  by_cases h1 : b < w.heap.size
  · exact Or.inl h1
  · by_cases h2 : b < w1.heap.size
    · exact absurd (hk b (by omega) h2) kb
    · exact Or.inr (by omega)

theorem ZRow.mo {w w1 w5 w6 : World} {m : Nat} {κ κ5 : Nat → Nat} {L : List Ent} {v : Value} (h : ZRow w.heap.size w1.heap.size w5 w6 m) (M0 : Mo κ L w v) (M : Mo κ5 L w5 v) : Mo κ5 L w6 v :=
  ⟨M.row.same (fun g hg => h.out g (Or.inl (M0.row.lt g hg))), M.kb⟩

theorem nrow_src {w w1 w' : World} {m : Nat} (h : NRow w w1 w.heap.size m m) (hb : ∀ b, w.heap.size ≤ b → b < w1.heap.size → w'.heap[b]? = w1.heap[b]?) : SrcOk w' (.slice (some ⟨w.heap.size, 0, none⟩) m m) m := by
  refine ⟨_, _, rfl, fun _ => ⟨w.heap.size, rfl, fun j hj => ?_⟩⟩
  obtain ⟨a1, a2, hb', a3, a4, a5, a6⟩ := h.ent j hj
  have e0 := hb w.heap.size (Nat.le_refl _) h.wr.lt
  have e1 := hb hb' (Nat.le_of_lt a4) a5.lt
  exact ⟨(World.cell?_of_block e0).trans a1, ⟨_, (World.cell?_of_block e0).trans a2⟩, _, _, (World.cell?_of_block e0).trans a3, (fun h => by cases h), fun _ => ⟨hb', rfl, fun i hi => (World.cell?_of_block e1).trans (a6 i hi)⟩⟩

/-- What the law's own list does at Keep: the test itself. -/
noncomputable def pB3 : Code := sel [1, 1, 1, 1, 1, 1, 1, 0, 1, 0, 0, 1, 1, 0, 0, 1, 1, 1, 1, 1, 1, 0, 1, 1, 1, 1, 1, 1, 1] whole
end Go.Proofs.Ybulkdbks

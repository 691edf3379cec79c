import Derived.Test.YbulkdbksMatch
import Derived.Test.YbulkdbksRing
namespace Go.Proofs.Ybulkdbks
open Go Go.RowKit
theorem info97 : (Yba.prog.info? 97).map (fun i => (i.zero, i.size, i.bytes)) = some (some (.agg #[.string ByteArray.empty, .int .i64 0, .slice none 0 0]), 3, 48) := by kernel_rfl

/-- Match j of a new row in block b. -/
def NEnt (w : World) (b j : Nat) : Prop :=
  w.cell? ⟨b, 3 * j, none⟩ = some (.string (nameB j)) ∧ w.cell? ⟨b, 3 * j + 1, none⟩ = some (.int .i64 ((j : Int) + 1)) ∧
  ∃ hb, w.cell? ⟨b, 3 * j + 2, none⟩ = some (.slice (some ⟨hb, 0, none⟩) (j % 4) (j % 4)) ∧ b < hb ∧ Wr w hb ∧ ∀ i, i < j % 4 → w.cell? ⟨hb, i, none⟩ = some (.string (holdB i))

structure NRow (w0 w : World) (b m q : Nat) : Prop where
  wr : Wr w b
  cel : ∀ i, i < 3 * m → ∃ v, w.cell? ⟨b, i, none⟩ = some v
  ent : ∀ j, j < q → NEnt w b j
  gr : w0.grownBy w none

theorem wr_grown {a b : World} {i : Nat} (h : Wr a i) (g : a.grownBy b none) : Wr b i := by
  obtain ⟨c, T, hc⟩ := h
  exact ⟨c, T, (g.block i (Wr.lt ⟨c, T, hc⟩) (by simp)).trans hc⟩
theorem cell_grown {a b : World} {i j : Nat} {v : Value} (h : a.cell? ⟨i, j, none⟩ = some v) (g : a.grownBy b none) : b.cell? ⟨i, j, none⟩ = some v :=
  (World.cell?_of_block (g.block i (cell_lt h) (by simp))).trans h

theorem NRow.grown {w0 w w' : World} {b m q : Nat} (h : NRow w0 w b m q) (g : w.grownBy w' none) : NRow w0 w' b m q := by
  refine ⟨wr_grown h.wr g, fun i hi => ?_, fun j hj => ?_, grown_trans h.gr g⟩
  · obtain ⟨v, hv⟩ := h.cel i hi
    exact ⟨v, cell_grown hv g⟩
  · obtain ⟨a1, a2, hb, a3, a4, a5, a6⟩ := h.ent j hj
    exact ⟨cell_grown a1 g, cell_grown a2 g, hb, cell_grown a3 g, a4, wr_grown a5 g, fun i hi => cell_grown (a6 i hi) g⟩

/-- Three cells of block b are written. -/
def set3 (w : World) (b i : Nat) (x y z : Value) : World := ((w.setCell ⟨b, i, none⟩ x).setCell ⟨b, i + 1, none⟩ y).setCell ⟨b, i + 2, none⟩ z
theorem set3_other {w : World} {b i b' i' : Nat} {x y z : Value} (h : ¬ (b = b' ∧ i ≤ i' ∧ i' < i + 3)) : (set3 w b i x y z).cell? ⟨b', i', none⟩ = w.cell? ⟨b', i', none⟩ := by
  unfold set3
  rw [cs_ne rfl (by omega), cs_ne rfl (by omega), cs_ne rfl (by omega)]
theorem set3_heap {w : World} {b i b' : Nat} {x y z : Value} (h : b ≠ b') : (set3 w b i x y z).heap[b']? = w.heap[b']? := by
  unfold set3
  rw [heap_set_ne h, heap_set_ne h, heap_set_ne h]
theorem set3_wr {w : World} {b i b' : Nat} {x y z : Value} (h : Wr w b') : Wr (set3 w b i x y z) b' := ((h.set _ _ _).set _ _ _).set _ _ _
theorem set3_at {w : World} {b i : Nat} {x y z u0 u1 u2 : Value} (h0 : w.cell? ⟨b, i, none⟩ = some u0) (h1 : w.cell? ⟨b, i + 1, none⟩ = some u1) (h2 : w.cell? ⟨b, i + 2, none⟩ = some u2) :
    (set3 w b i x y z).cell? ⟨b, i, none⟩ = some x ∧ (set3 w b i x y z).cell? ⟨b, i + 1, none⟩ = some y ∧ (set3 w b i x y z).cell? ⟨b, i + 2, none⟩ = some z := by
  unfold set3
  refine ⟨?_, ?_, ?_⟩
  · rw [cs_ne rfl (by omega), cs_ne rfl (by omega)]; exact cs_eq rfl h0
  · rw [cs_ne rfl (by omega)]; exact cs_eq rfl ((cs_ne rfl (by omega)).trans h1)
  · exact cs_eq rfl ((cs_ne rfl (by omega)).trans ((cs_ne rfl (by omega)).trans h2))
theorem set3_grown {w0 w : World} {b i : Nat} {x y z : Value} (h : w0.grownBy w none) (hb : w0.heap.size ≤ b) : w0.grownBy (set3 w b i x y z) none := by
  refine ⟨h.os, h.tape, h.output, ?_, fun k hk _ => ?_⟩
  · unfold set3; simpa using h.size
  · rw [set3_heap (by omega)]; exact h.block k hk (by simp)

theorem NRow.step {w0 w : World} {b m q hb : Nat} (h : NRow w0 w b m q) (hq : q < m) (hw : w0.heap.size ≤ b) (h1 : b < hb) (h2 : Wr w hb) (h3 : ∀ i, i < q % 4 → w.cell? ⟨hb, i, none⟩ = some (.string (holdB i))) :
    NRow w0 (set3 w b (3 * q) (.string (nameB q)) (.int .i64 ((q : Int) + 1)) (.slice (some ⟨hb, 0, none⟩) (q % 4) (q % 4))) b m (q + 1) := by
  obtain ⟨u0, k0⟩ := h.cel (3 * q) (by omega)
  obtain ⟨u1, k1⟩ := h.cel (3 * q + 1) (by omega)
  obtain ⟨u2, k2⟩ := h.cel (3 * q + 2) (by omega)
  obtain ⟨s0, s1, s2⟩ := set3_at (x := .string (nameB q)) (y := .int .i64 ((q : Int) + 1)) (z := .slice (some ⟨hb, 0, none⟩) (q % 4) (q % 4)) k0 k1 k2
  refine ⟨set3_wr h.wr, fun i hi => ?_, fun j hj => ?_, set3_grown h.gr hw⟩
  · by_cases hin : 3 * q ≤ i ∧ i < 3 * q + 3
    · obtain rfl | rfl | rfl : i = 3 * q ∨ i = 3 * q + 1 ∨ i = 3 * q + 2 := by omega
      · exact ⟨_, s0⟩
      · exact ⟨_, s1⟩
      · exact ⟨_, s2⟩
    · obtain ⟨v, hv⟩ := h.cel i hi
      exact ⟨v, (set3_other (by omega)).trans hv⟩
  · by_cases e : j = q
    · subst e
      exact ⟨s0, s1, hb, s2, h1, set3_wr h2, fun i hi => (set3_other (by omega)).trans (h3 i hi)⟩
    · obtain ⟨a1, a2, hb', a3, a4, a5, a6⟩ := h.ent j (by omega)
      exact ⟨(set3_other (by omega)).trans a1, (set3_other (by omega)).trans a2, hb', (set3_other (by omega)).trans a3, a4, set3_wr a5, fun i hi => (set3_other (by omega)).trans (a6 i hi)⟩

set_option maxHeartbeats 1600000 in
set_option maxRecDepth 100000 in
theorem mats_any (m : Nat) (hm : m ≤ 6) (w : World) : Calls Yba.prog 20 #[.int .i64 m] w fun e w' => e = .returned (.slice (some ⟨w.heap.size, 0, none⟩) m m) ∧ NRow w w' w.heap.size m m := by
  obtain ⟨i0, hi, hz0, hz1, hz2⟩ := info_parts info97
  go_enter Yba.func20, Yba.ntmps20
  go_wp2_with (at_make; refine wpList_make_full _ rfl _ _ 86 rfl w.heap.size 97 i0 _ 3 Yba.underlying86 hi hz0 hz1 _ _ _ _ m rfl rfl (by omega) (by omega) ?b2 ?b3 (Nat.le_refl _) ?_)
  case b2 => rw [hz2]; omega
  case b3 => unfold maxLen; omega
  intro w0 hown0 hgrow0
  have HN : Hid (NRow w w0 w.heap.size m 0) := ⟨row_wr hown0, fun i hi => ⟨_, (hown0.cellAt i (by omega)).trans (List.getElem?_eq_getElem (by rw [hown0.1]; omega))⟩, fun j hj => by omega, hgrow0⟩
  clear hown0 hgrow0
  go_wp2
  go_loopw [4] (fun si wr => ∃ q : Nat, q ≤ m ∧ si = .int .i64 q ∧ NRow w wr w.heap.size m q) (fun si _ => m - (intOf si).toNat)
  case atStart => exact ⟨0, Nat.zero_le _, rfl, HN.out⟩
  case round =>
    obtain ⟨q, hq, rfl, hN⟩ := hrel
    by_cases hlt : q < m
    · have hltI : (q : Int) < (m : Int) := by omega
      go_wp2_with (first
        | (go_at_call 35; refine (name_any q (by omega) _).mono ?_; rintro e w1 ⟨rfl, rfl⟩)
        | (go_at_call 36; refine (hold_any q (by omega) _).mono ?_; rintro e w1 ⟨hb, rfl, h1, h2, h3, h4, h5⟩
           have hN1 := hN.grown h5
           have hbb : w.heap.size < hb := Nat.lt_of_lt_of_le hN.wr.lt h1
           obtain ⟨u0, k0⟩ := hN1.cel (q * 3) (by omega)
           obtain ⟨u1, k1⟩ := hN1.cel (q * 3 + 1) (by omega)
           obtain ⟨u2, k2⟩ := hN1.cel (q * 3 + 2) (by omega)
           have fz := hN1.wr.fz
           have HS : Hid _ := hN1.step hlt (Nat.le_refl _) hbb h3 h4
           clear hN hN1 h1 h2 h3 h4 h5))
      go_roundw
      case rel => exact ⟨q + 1, by omega, by go_num, by have := HS.out; rw [Nat.mul_comm 3 q] at this; exact this⟩
      case measure => simp [intOf]; omega
    · obtain rfl : q = m := by omega
      have HN2 : Hid _ := hN
      clear hN
      go_wp2
      go_ret
      exact ⟨rfl, HN2.out⟩
end Go.Proofs.Ybulkdbks

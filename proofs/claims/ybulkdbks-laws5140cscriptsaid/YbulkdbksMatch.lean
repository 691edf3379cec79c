import Derived.Test.YbulkdbksState
namespace Go.Proofs.Ybulkdbks
open Go Go.RowKit

theorem name_any (j : Nat) (hj : j < 7) (w : World) : Calls Yba.prog 35 #[.int .i64 j] w fun e w' => e = .returned (.string (nameB j)) ∧ w' = w := by
  obtain rfl | rfl | rfl | rfl | rfl | rfl | rfl : j = 0 ∨ j = 1 ∨ j = 2 ∨ j = 3 ∨ j = 4 ∨ j = 5 ∨ j = 6 := by omega
  all_goals
    go_enter Yba.func35, Yba.ntmps35
    go_wp2
    go_ret
    exact ⟨rfl, rfl⟩


/-- The first k cells hold f, the rest z. -/
def fillTo {α : Type} (n k : Nat) (f : Nat → α) (z : α) : List α := (List.range n).map (fun i => if i < k then f i else z)
theorem fillTo_zero {α : Type} (n : Nat) (f : Nat → α) (z : α) : fillTo n 0 f z = List.replicate n z := by
  unfold fillTo
  apply List.ext_getElem
  · simp
  · intro i h1 h2; simp
theorem fillTo_set {α : Type} (n k : Nat) (f : Nat → α) (z : α) : (fillTo n k f z).set k (f k) = fillTo n (k + 1) f z := by
  unfold fillTo
  apply List.ext_getElem
  · simp
  · intro i h1 h2
    simp only [List.getElem_set, List.getElem_map, List.getElem_range]
    by_cases e : k = i
    · subst e; simp
    · simp only [e, if_false]
      by_cases hi : i < k
      · rw [if_pos hi, if_pos (by omega)]
      · rw [if_neg hi, if_neg (by omega)]
theorem fillTo_full {α : Type} (n : Nat) (f : Nat → α) (z : α) : fillTo n n f z = (List.range n).map f := by
  unfold fillTo
  apply List.map_congr_left
  intro i hi
  rw [if_pos (by simpa using hi)]
theorem fillTo_len {α : Type} (n k : Nat) (f : Nat → α) (z : α) : (fillTo n k f z).length = n := by simp [fillTo]

abbrev tblH : Obj := .cells #[.string (holdB 0), .string (holdB 1), .string (holdB 2)] 115

/-- What zzs5140cholders hands back. -/
def HPost (j : Nat) (w : World) (e : Ending) (w' : World) : Prop :=
  ∃ b, e = .returned (.slice (some ⟨b, 0, none⟩) (j % 4) (j % 4)) ∧ w.heap.size ≤ b ∧ b < w'.heap.size ∧ Wr w' b ∧ (∀ i, i < j % 4 → w'.cell? ⟨b, i, none⟩ = some (.string (holdB i))) ∧ w.grownBy w' none

theorem row_wr {w : World} {base e size g n cap : Nat} {xs : List Value} (h : w.ownsRow base e size (.slice (some ⟨g, 0, none⟩) n cap) n xs) : Wr w g := by
  rcases h.2 with ⟨h', _⟩ | ⟨g', cap', cur, h', _, hg, _⟩
  · simp at h'
  · simp only [Value.slice.injEq, Option.some.injEq, Addr.mk.injEq, and_true, true_and] at h'
    obtain ⟨rfl, _⟩ := h'
    exact ⟨_, _, hg⟩

theorem hold_end {j k : Nat} {w wr : World} (hk : j % 4 = k)
    (hown : wr.ownsRow w.heap.size 9 1 (.slice (some ⟨w.heap.size + 1, 0, none⟩) k k) k (fillTo k k (fun i => .string (holdB i)) (.string ByteArray.empty))) (hb : Below (w.heap.size + 1) (w.alloc tblH) wr) :
    HPost j w (.returned (.slice (some ⟨w.heap.size + 1, 0, none⟩) k k)) wr := by
  subst hk
  refine ⟨w.heap.size + 1, rfl, by omega, (row_wr hown).lt, row_wr hown, fun i hi => ?_, ?_⟩
  · rw [hown.cellAt i (by omega), fillTo_full]
    simp [hi]
  · have := World.grownBy_alloc w tblH none
    exact ⟨hb.os.trans this.os, hb.tape.trans this.tape, hb.output.trans this.output, Nat.le_trans this.size hb.size, fun b hb' _ => (hb.block b (by omega)).trans (this.block b hb' (by simp))⟩

theorem hold_tbl {w wr : World} {q : Nat} (hb : Below (w.heap.size + 1) (w.alloc tblH) wr) (hq : q < 3) : wr.cell? ⟨w.heap.size, q, none⟩ = some (.string (holdB q)) := by
  rw [World.cell?_of_block (hb.block w.heap.size (by omega))]
  refine cell_new ?_
  obtain rfl | rfl | rfl : q = 0 ∨ q = 1 ∨ q = 2 := by omega
  all_goals rfl

theorem hold_step {k q : Nat} {w wr : World} (hown : wr.ownsRow w.heap.size 9 1 (.slice (some ⟨w.heap.size + 1, 0, none⟩) k k) k (fillTo k q (fun i => .string (holdB i)) (.string ByteArray.empty))) (hb : Below (w.heap.size + 1) (w.alloc tblH) wr) :
    (wr.setCell ⟨w.heap.size + 1, q, none⟩ (.string (holdB q))).ownsRow w.heap.size 9 1 (.slice (some ⟨w.heap.size + 1, 0, none⟩) k k) k (fillTo k (q + 1) (fun i => .string (holdB i)) (.string ByteArray.empty)) ∧ Below (w.heap.size + 1) (w.alloc tblH) (wr.setCell ⟨w.heap.size + 1, q, none⟩ (.string (holdB q))) := by
  refine ⟨?_, hb.setCell (Nat.le_refl _) _⟩
  rw [← fillTo_set]
  exact (hown.stored q _).1

set_option maxHeartbeats 1600000 in
set_option maxRecDepth 100000 in
theorem hold_0 (w : World) : Calls Yba.prog 36 #[.int .i64 (0 : Int)] w (HPost 0 w) := by
  obtain ⟨i0, hi, hz0, hz1, hz2⟩ := info_parts info9
  go_enter Yba.func36, Yba.ntmps36
  go_wp2_with (at_make; refine wpList_make_full _ rfl _ _ 32 rfl w.heap.size 9 i0 (.string ByteArray.empty) 1 Yba.underlying32 hi hz0 hz1 _ _ _ _ 0 rfl rfl (by omega) (by omega) ?b2 ?b3 ?b4 ?_)
  case b2 => rw [hz2]; omega
  case b3 => unfold maxLen; omega
  case b4 => simp
  intro w0 hown0 hgrow0
  have HO : Hid (w0.ownsRow w.heap.size 9 1 (.slice (some ⟨w.heap.size + 1, 0, none⟩) 0 0) 0 (fillTo 0 0 (fun i => .string (holdB i)) (.string ByteArray.empty))) := by
    show World.ownsRow _ _ _ _ _ _ _
    rw [fillTo_zero, ← toList_madeCells_one]
    simpa [Value.cells] using hown0
  have HB : Hid (Below (w.heap.size + 1) (w.alloc tblH) w0) := (Below.refl _ _).grown hgrow0 (by simp) (fun k h => by cases h)
  clear hown0 hgrow0
  go_wp2
  go_loopw [6] (fun si wr => ∃ q : Nat, q ≤ 0 ∧ si = .int .i64 q ∧ wr.ownsRow w.heap.size 9 1 (.slice (some ⟨w.heap.size + 1, 0, none⟩) 0 0) 0 (fillTo 0 q (fun i => .string (holdB i)) (.string ByteArray.empty)) ∧ Below (w.heap.size + 1) (w.alloc tblH) wr)
    (fun si _ => 0 - (intOf si).toNat)
  case atStart => exact ⟨0, Nat.zero_le _, rfl, HO.out, HB.out⟩
  case round =>
    obtain ⟨q, hq, rfl, hown, hnx⟩ := hrel
    by_cases hlt : q < 0
    · exact absurd hlt (by omega)
    · obtain rfl : q = 0 := by omega
      have HE : Hid _ := hold_end (j := 0) rfl hown hnx
      clear hown hnx
      go_wp2
      go_ret
      exact HE.out

set_option maxHeartbeats 1600000 in
set_option maxRecDepth 100000 in
theorem hold_1 (w : World) : Calls Yba.prog 36 #[.int .i64 (1 : Int)] w (HPost 1 w) := by
  obtain ⟨i0, hi, hz0, hz1, hz2⟩ := info_parts info9
  go_enter Yba.func36, Yba.ntmps36
  go_wp2_with (at_make; refine wpList_make_full _ rfl _ _ 32 rfl w.heap.size 9 i0 (.string ByteArray.empty) 1 Yba.underlying32 hi hz0 hz1 _ _ _ _ 1 rfl rfl (by omega) (by omega) ?b2 ?b3 ?b4 ?_)
  case b2 => rw [hz2]; omega
  case b3 => unfold maxLen; omega
  case b4 => simp
  intro w0 hown0 hgrow0
  have HO : Hid (w0.ownsRow w.heap.size 9 1 (.slice (some ⟨w.heap.size + 1, 0, none⟩) 1 1) 1 (fillTo 1 0 (fun i => .string (holdB i)) (.string ByteArray.empty))) := by
    show World.ownsRow _ _ _ _ _ _ _
    rw [fillTo_zero, ← toList_madeCells_one]
    simpa [Value.cells] using hown0
  have HB : Hid (Below (w.heap.size + 1) (w.alloc tblH) w0) := (Below.refl _ _).grown hgrow0 (by simp) (fun k h => by cases h)
  clear hown0 hgrow0
  go_wp2
  go_loopw [6] (fun si wr => ∃ q : Nat, q ≤ 1 ∧ si = .int .i64 q ∧ wr.ownsRow w.heap.size 9 1 (.slice (some ⟨w.heap.size + 1, 0, none⟩) 1 1) 1 (fillTo 1 q (fun i => .string (holdB i)) (.string ByteArray.empty)) ∧ Below (w.heap.size + 1) (w.alloc tblH) wr)
    (fun si _ => 1 - (intOf si).toNat)
  case atStart => exact ⟨0, Nat.zero_le _, rfl, HO.out, HB.out⟩
  case round =>
    obtain ⟨q, hq, rfl, hown, hnx⟩ := hrel
    by_cases hlt : q < 1
    · have hc := hold_tbl hnx (q := q) (by omega)
      have hq3 : (q : Int) < 3 := by omega
      have hq0 : (0 : Int) ≤ (q : Int) := by omega
      have hfr := hown.frozenAt q
      obtain ⟨vo, hvo⟩ : ∃ v, wr.cell? ⟨w.heap.size + 1, q, none⟩ = some v := ⟨_, (hown.cellAt q (by omega)).trans (List.getElem?_eq_getElem (by rw [fillTo_len]; exact hlt))⟩
      have HR : Hid _ := hold_step hown hnx
      clear hown hnx
      generalize holdB q = hq' at *
      go_wp2
      go_roundw
      case rel => exact ⟨q + 1, by omega, by go_num, HR.out.1, HR.out.2⟩
      case measure => simp [intOf]; omega
    · obtain rfl : q = 1 := by omega
      have HE : Hid _ := hold_end (j := 1) rfl hown hnx
      clear hown hnx
      go_wp2
      go_ret
      exact HE.out

set_option maxHeartbeats 1600000 in
set_option maxRecDepth 100000 in
theorem hold_2 (w : World) : Calls Yba.prog 36 #[.int .i64 (2 : Int)] w (HPost 2 w) := by
  obtain ⟨i0, hi, hz0, hz1, hz2⟩ := info_parts info9
  go_enter Yba.func36, Yba.ntmps36
  go_wp2_with (at_make; refine wpList_make_full _ rfl _ _ 32 rfl w.heap.size 9 i0 (.string ByteArray.empty) 1 Yba.underlying32 hi hz0 hz1 _ _ _ _ 2 rfl rfl (by omega) (by omega) ?b2 ?b3 ?b4 ?_)
  case b2 => rw [hz2]; omega
  case b3 => unfold maxLen; omega
  case b4 => simp
  intro w0 hown0 hgrow0
  have HO : Hid (w0.ownsRow w.heap.size 9 1 (.slice (some ⟨w.heap.size + 1, 0, none⟩) 2 2) 2 (fillTo 2 0 (fun i => .string (holdB i)) (.string ByteArray.empty))) := by
    show World.ownsRow _ _ _ _ _ _ _
    rw [fillTo_zero, ← toList_madeCells_one]
    simpa [Value.cells] using hown0
  have HB : Hid (Below (w.heap.size + 1) (w.alloc tblH) w0) := (Below.refl _ _).grown hgrow0 (by simp) (fun k h => by cases h)
  clear hown0 hgrow0
  go_wp2
  go_loopw [6] (fun si wr => ∃ q : Nat, q ≤ 2 ∧ si = .int .i64 q ∧ wr.ownsRow w.heap.size 9 1 (.slice (some ⟨w.heap.size + 1, 0, none⟩) 2 2) 2 (fillTo 2 q (fun i => .string (holdB i)) (.string ByteArray.empty)) ∧ Below (w.heap.size + 1) (w.alloc tblH) wr)
    (fun si _ => 2 - (intOf si).toNat)
  case atStart => exact ⟨0, Nat.zero_le _, rfl, HO.out, HB.out⟩
  case round =>
    obtain ⟨q, hq, rfl, hown, hnx⟩ := hrel
    by_cases hlt : q < 2
    · have hc := hold_tbl hnx (q := q) (by omega)
      have hq3 : (q : Int) < 3 := by omega
      have hq0 : (0 : Int) ≤ (q : Int) := by omega
      have hfr := hown.frozenAt q
      obtain ⟨vo, hvo⟩ : ∃ v, wr.cell? ⟨w.heap.size + 1, q, none⟩ = some v := ⟨_, (hown.cellAt q (by omega)).trans (List.getElem?_eq_getElem (by rw [fillTo_len]; exact hlt))⟩
      have HR : Hid _ := hold_step hown hnx
      clear hown hnx
      generalize holdB q = hq' at *
      go_wp2
      go_roundw
      case rel => exact ⟨q + 1, by omega, by go_num, HR.out.1, HR.out.2⟩
      case measure => simp [intOf]; omega
    · obtain rfl : q = 2 := by omega
      have HE : Hid _ := hold_end (j := 2) rfl hown hnx
      clear hown hnx
      go_wp2
      go_ret
      exact HE.out

set_option maxHeartbeats 1600000 in
set_option maxRecDepth 100000 in
theorem hold_3 (w : World) : Calls Yba.prog 36 #[.int .i64 (3 : Int)] w (HPost 3 w) := by
  obtain ⟨i0, hi, hz0, hz1, hz2⟩ := info_parts info9
  go_enter Yba.func36, Yba.ntmps36
  go_wp2_with (at_make; refine wpList_make_full _ rfl _ _ 32 rfl w.heap.size 9 i0 (.string ByteArray.empty) 1 Yba.underlying32 hi hz0 hz1 _ _ _ _ 3 rfl rfl (by omega) (by omega) ?b2 ?b3 ?b4 ?_)
  case b2 => rw [hz2]; omega
  case b3 => unfold maxLen; omega
  case b4 => simp
  intro w0 hown0 hgrow0
  have HO : Hid (w0.ownsRow w.heap.size 9 1 (.slice (some ⟨w.heap.size + 1, 0, none⟩) 3 3) 3 (fillTo 3 0 (fun i => .string (holdB i)) (.string ByteArray.empty))) := by
    show World.ownsRow _ _ _ _ _ _ _
    rw [fillTo_zero, ← toList_madeCells_one]
    simpa [Value.cells] using hown0
  have HB : Hid (Below (w.heap.size + 1) (w.alloc tblH) w0) := (Below.refl _ _).grown hgrow0 (by simp) (fun k h => by cases h)
  clear hown0 hgrow0
  go_wp2
  go_loopw [6] (fun si wr => ∃ q : Nat, q ≤ 3 ∧ si = .int .i64 q ∧ wr.ownsRow w.heap.size 9 1 (.slice (some ⟨w.heap.size + 1, 0, none⟩) 3 3) 3 (fillTo 3 q (fun i => .string (holdB i)) (.string ByteArray.empty)) ∧ Below (w.heap.size + 1) (w.alloc tblH) wr)
    (fun si _ => 3 - (intOf si).toNat)
  case atStart => exact ⟨0, Nat.zero_le _, rfl, HO.out, HB.out⟩
  case round =>
    obtain ⟨q, hq, rfl, hown, hnx⟩ := hrel
    by_cases hlt : q < 3
    · have hc := hold_tbl hnx (q := q) (by omega)
      have hq3 : (q : Int) < 3 := by omega
      have hq0 : (0 : Int) ≤ (q : Int) := by omega
      have hfr := hown.frozenAt q
      obtain ⟨vo, hvo⟩ : ∃ v, wr.cell? ⟨w.heap.size + 1, q, none⟩ = some v := ⟨_, (hown.cellAt q (by omega)).trans (List.getElem?_eq_getElem (by rw [fillTo_len]; exact hlt))⟩
      have HR : Hid _ := hold_step hown hnx
      clear hown hnx
      generalize holdB q = hq' at *
      go_wp2
      go_roundw
      case rel => exact ⟨q + 1, by omega, by go_num, HR.out.1, HR.out.2⟩
      case measure => simp [intOf]; omega
    · obtain rfl : q = 3 := by omega
      have HE : Hid _ := hold_end (j := 3) rfl hown hnx
      clear hown hnx
      go_wp2
      go_ret
      exact HE.out

set_option maxHeartbeats 1600000 in
set_option maxRecDepth 100000 in
theorem hold_4 (w : World) : Calls Yba.prog 36 #[.int .i64 (4 : Int)] w (HPost 4 w) := by
  obtain ⟨i0, hi, hz0, hz1, hz2⟩ := info_parts info9
  go_enter Yba.func36, Yba.ntmps36
  go_wp2_with (at_make; refine wpList_make_full _ rfl _ _ 32 rfl w.heap.size 9 i0 (.string ByteArray.empty) 1 Yba.underlying32 hi hz0 hz1 _ _ _ _ 0 rfl rfl (by omega) (by omega) ?b2 ?b3 ?b4 ?_)
  case b2 => rw [hz2]; omega
  case b3 => unfold maxLen; omega
  case b4 => simp
  intro w0 hown0 hgrow0
  have HO : Hid (w0.ownsRow w.heap.size 9 1 (.slice (some ⟨w.heap.size + 1, 0, none⟩) 0 0) 0 (fillTo 0 0 (fun i => .string (holdB i)) (.string ByteArray.empty))) := by
    show World.ownsRow _ _ _ _ _ _ _
    rw [fillTo_zero, ← toList_madeCells_one]
    simpa [Value.cells] using hown0
  have HB : Hid (Below (w.heap.size + 1) (w.alloc tblH) w0) := (Below.refl _ _).grown hgrow0 (by simp) (fun k h => by cases h)
  clear hown0 hgrow0
  go_wp2
  go_loopw [6] (fun si wr => ∃ q : Nat, q ≤ 0 ∧ si = .int .i64 q ∧ wr.ownsRow w.heap.size 9 1 (.slice (some ⟨w.heap.size + 1, 0, none⟩) 0 0) 0 (fillTo 0 q (fun i => .string (holdB i)) (.string ByteArray.empty)) ∧ Below (w.heap.size + 1) (w.alloc tblH) wr)
    (fun si _ => 0 - (intOf si).toNat)
  case atStart => exact ⟨0, Nat.zero_le _, rfl, HO.out, HB.out⟩
  case round =>
    obtain ⟨q, hq, rfl, hown, hnx⟩ := hrel
    by_cases hlt : q < 0
    · exact absurd hlt (by omega)
    · obtain rfl : q = 0 := by omega
      have HE : Hid _ := hold_end (j := 4) rfl hown hnx
      clear hown hnx
      go_wp2
      go_ret
      exact HE.out

set_option maxHeartbeats 1600000 in
set_option maxRecDepth 100000 in
theorem hold_5 (w : World) : Calls Yba.prog 36 #[.int .i64 (5 : Int)] w (HPost 5 w) := by
  obtain ⟨i0, hi, hz0, hz1, hz2⟩ := info_parts info9
  go_enter Yba.func36, Yba.ntmps36
  go_wp2_with (at_make; refine wpList_make_full _ rfl _ _ 32 rfl w.heap.size 9 i0 (.string ByteArray.empty) 1 Yba.underlying32 hi hz0 hz1 _ _ _ _ 1 rfl rfl (by omega) (by omega) ?b2 ?b3 ?b4 ?_)
  case b2 => rw [hz2]; omega
  case b3 => unfold maxLen; omega
  case b4 => simp
  intro w0 hown0 hgrow0
  have HO : Hid (w0.ownsRow w.heap.size 9 1 (.slice (some ⟨w.heap.size + 1, 0, none⟩) 1 1) 1 (fillTo 1 0 (fun i => .string (holdB i)) (.string ByteArray.empty))) := by
    show World.ownsRow _ _ _ _ _ _ _
    rw [fillTo_zero, ← toList_madeCells_one]
    simpa [Value.cells] using hown0
  have HB : Hid (Below (w.heap.size + 1) (w.alloc tblH) w0) := (Below.refl _ _).grown hgrow0 (by simp) (fun k h => by cases h)
  clear hown0 hgrow0
  go_wp2
  go_loopw [6] (fun si wr => ∃ q : Nat, q ≤ 1 ∧ si = .int .i64 q ∧ wr.ownsRow w.heap.size 9 1 (.slice (some ⟨w.heap.size + 1, 0, none⟩) 1 1) 1 (fillTo 1 q (fun i => .string (holdB i)) (.string ByteArray.empty)) ∧ Below (w.heap.size + 1) (w.alloc tblH) wr)
    (fun si _ => 1 - (intOf si).toNat)
  case atStart => exact ⟨0, Nat.zero_le _, rfl, HO.out, HB.out⟩
  case round =>
    obtain ⟨q, hq, rfl, hown, hnx⟩ := hrel
    by_cases hlt : q < 1
    · have hc := hold_tbl hnx (q := q) (by omega)
      have hq3 : (q : Int) < 3 := by omega
      have hq0 : (0 : Int) ≤ (q : Int) := by omega
      have hfr := hown.frozenAt q
      obtain ⟨vo, hvo⟩ : ∃ v, wr.cell? ⟨w.heap.size + 1, q, none⟩ = some v := ⟨_, (hown.cellAt q (by omega)).trans (List.getElem?_eq_getElem (by rw [fillTo_len]; exact hlt))⟩
      have HR : Hid _ := hold_step hown hnx
      clear hown hnx
      generalize holdB q = hq' at *
      go_wp2
      go_roundw
      case rel => exact ⟨q + 1, by omega, by go_num, HR.out.1, HR.out.2⟩
      case measure => simp [intOf]; omega
    · obtain rfl : q = 1 := by omega
      have HE : Hid _ := hold_end (j := 5) rfl hown hnx
      clear hown hnx
      go_wp2
      go_ret
      exact HE.out

set_option maxHeartbeats 1600000 in
set_option maxRecDepth 100000 in
theorem hold_6 (w : World) : Calls Yba.prog 36 #[.int .i64 (6 : Int)] w (HPost 6 w) := by
  obtain ⟨i0, hi, hz0, hz1, hz2⟩ := info_parts info9
  go_enter Yba.func36, Yba.ntmps36
  go_wp2_with (at_make; refine wpList_make_full _ rfl _ _ 32 rfl w.heap.size 9 i0 (.string ByteArray.empty) 1 Yba.underlying32 hi hz0 hz1 _ _ _ _ 2 rfl rfl (by omega) (by omega) ?b2 ?b3 ?b4 ?_)
  case b2 => rw [hz2]; omega
  case b3 => unfold maxLen; omega
  case b4 => simp
  intro w0 hown0 hgrow0
  have HO : Hid (w0.ownsRow w.heap.size 9 1 (.slice (some ⟨w.heap.size + 1, 0, none⟩) 2 2) 2 (fillTo 2 0 (fun i => .string (holdB i)) (.string ByteArray.empty))) := by
    show World.ownsRow _ _ _ _ _ _ _
    rw [fillTo_zero, ← toList_madeCells_one]
    simpa [Value.cells] using hown0
  have HB : Hid (Below (w.heap.size + 1) (w.alloc tblH) w0) := (Below.refl _ _).grown hgrow0 (by simp) (fun k h => by cases h)
  clear hown0 hgrow0
  go_wp2
  go_loopw [6] (fun si wr => ∃ q : Nat, q ≤ 2 ∧ si = .int .i64 q ∧ wr.ownsRow w.heap.size 9 1 (.slice (some ⟨w.heap.size + 1, 0, none⟩) 2 2) 2 (fillTo 2 q (fun i => .string (holdB i)) (.string ByteArray.empty)) ∧ Below (w.heap.size + 1) (w.alloc tblH) wr)
    (fun si _ => 2 - (intOf si).toNat)
  case atStart => exact ⟨0, Nat.zero_le _, rfl, HO.out, HB.out⟩
  case round =>
    obtain ⟨q, hq, rfl, hown, hnx⟩ := hrel
    by_cases hlt : q < 2
    · have hc := hold_tbl hnx (q := q) (by omega)
      have hq3 : (q : Int) < 3 := by omega
      have hq0 : (0 : Int) ≤ (q : Int) := by omega
      have hfr := hown.frozenAt q
      obtain ⟨vo, hvo⟩ : ∃ v, wr.cell? ⟨w.heap.size + 1, q, none⟩ = some v := ⟨_, (hown.cellAt q (by omega)).trans (List.getElem?_eq_getElem (by rw [fillTo_len]; exact hlt))⟩
      have HR : Hid _ := hold_step hown hnx
      clear hown hnx
      generalize holdB q = hq' at *
      go_wp2
      go_roundw
      case rel => exact ⟨q + 1, by omega, by go_num, HR.out.1, HR.out.2⟩
      case measure => simp [intOf]; omega
    · obtain rfl : q = 2 := by omega
      have HE : Hid _ := hold_end (j := 6) rfl hown hnx
      clear hown hnx
      go_wp2
      go_ret
      exact HE.out

theorem hold_any (j : Nat) (hj : j < 7) (w : World) : Calls Yba.prog 36 #[.int .i64 j] w (HPost j w) := by
  obtain rfl | rfl | rfl | rfl | rfl | rfl | rfl : j = 0 ∨ j = 1 ∨ j = 2 ∨ j = 3 ∨ j = 4 ∨ j = 5 ∨ j = 6 := by omega
  · exact hold_0 w
  · exact hold_1 w
  · exact hold_2 w
  · exact hold_3 w
  · exact hold_4 w
  · exact hold_5 w
  · exact hold_6 w
end Go.Proofs.Ybulkdbks

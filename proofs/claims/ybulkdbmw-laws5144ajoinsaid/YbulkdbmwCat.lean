import Derived.Test.YbulkdbmwPl
namespace Go.Proofs.Ybulkdbmw
open Go Go.RowKit Go.Sort Go.Shelf Go.Lib

theorem gnew {a b c : World} {r : Option Nat} (h : a.grownBy b none) (k : b.grownBy c r) (hr : ∀ j, r = some j → a.heap.size ≤ j) : a.grownBy c none :=
  ⟨k.os.trans h.os, k.tape.trans h.tape, k.output.trans h.output, Nat.le_trans h.size k.size, fun i hi hne =>
    (k.block i (Nat.lt_of_lt_of_le hi h.size) (fun e => by have := hr i e.symm; omega)).trans (h.block i hi hne)⟩

theorem putRow_grown (w : World) (blk off : Nat) (d : Array Int) (q : Nat) : w.grownBy (putRow encU (Sort.ahead w q) blk off d) (some blk) := by
  refine ⟨rfl, rfl, rfl, by simp [Sort.ahead], fun i _ hi => ?_⟩
  show (mapBlock _ _ _).heap[i]? = _
  unfold mapBlock
  have : ¬ blk = i := fun e => hi (by rw [e])
  simp [Array.getElem?_modify, this, Sort.ahead]

theorem compact_len (d : Array Int) : (compactUpTo d d.size).length ≤ d.size := by
  unfold compactUpTo
  rw [List.length_map]
  exact Nat.le_trans (List.length_filter_le _ _) (by simp)

theorem compact_u (blk off cap : Nat) (d : Array Int) (w : World) (hH : Holds encU w blk off d) (hb : blk < w.heap.size) (hsz : d.size < 1000000) (hcap : d.size ≤ cap) :
    Calls Yba.prog 34 #[.slice (some ⟨blk, off, none⟩) d.size cap] w fun e w' => ∃ v, e = .returned v ∧ Pl w' v (compactUpTo d d.size) ∧ w.grownBy w' (some blk) ∧ v.ownBlock = some blk := by
  have hl := compact_len d
  refine (AnyE.slices_Compact Yba.compact34 (Value.int .u32) (fun _ => rfl) (EqlAt.intD _ _ _) (NeqAt.intD _ _ _) 0 (by exact Yba.zeroValue31) blk off cap d w hH (by omega) hcap).mono ?_
  rintro e w' ⟨rfl, q, rfl⟩
  refine ⟨_, rfl, Or.inr ⟨blk, off, cap, rfl, by omega, ?_, fun j hj => ?_⟩, putRow_grown w blk off _ q, rfl⟩
  · simpa [Sort.ahead] using hb
  · have hs : (compactUpTo d d.size ++ List.replicate (d.size - (compactUpTo d d.size).length) 0).toArray.size = d.size := by simp; omega
    have := cell?_putRow encU (Sort.ahead w q) blk off d (compactUpTo d d.size ++ List.replicate (d.size - (compactUpTo d d.size).length) 0).toArray (holds_ahead _ _ _ _ _ _ hH) hs j (by omega)
    refine this.trans ?_
    congr 2
    rw [getElem!_pos _ j (by simpa [hs] using (by omega : j < d.size)), getElem!_pos _ j hj]
    simp [List.getElem_append_left hj]

theorem compact_nil (a : Option Addr) (cap : Nat) (w : World) : Calls Yba.prog 34 #[.slice a 0 cap] w fun e w' => e = .returned (.slice a 0 cap) ∧ w' = w := by
  go_enter Yba.func34, Yba.ntmps34
  go_wp2
  go_ret
  exact ⟨rfl, rfl⟩

/-- slices.Grow of nil. -/
theorem grow_u (n : Nat) (w : World) (hn : n < 1000000) : Calls Yba.prog 67 #[.slice none 0 0, .int .i64 n] w fun e w' => ∃ v, e = .returned v ∧ Ow w' w.heap.size v [] ∧ w.grownBy w' none := by
  by_cases h0 : n = 0
  · subst h0
    refine (Any8.slices_Grow_room Yba.grow67 none 0 0 0 w (by omega) (by omega) (by omega) (by omega)).mono ?_
    rintro e w' ⟨rfl, rfl⟩
    exact ⟨_, rfl, Ow.nil _ _, grf _ _⟩
  · obtain ⟨i, hi, hzi⟩ : ∃ i, Yba.prog.info? 31 = some i ∧ (i.zero, i.size, i.bytes) = (some (.int .u32 0), 1, 4) := by
      have := info31
      cases hh : Yba.prog.info? 31 with
      | none => rw [hh] at this; simp at this
      | some i => rw [hh] at this; exact ⟨i, rfl, by simpa using this⟩
    simp only [Prod.mk.injEq] at hzi
    refine (Any8.slices_Grow_grow Yba.grow67 i (.int .u32 0) hi hzi.1 (by omega) none 0 0 n [] w (by omega) (by omega) (by rw [hzi.2.2]; omega) (by omega) (by simp) (by simp) (by simp)).mono ?_
    rintro e w' ⟨rfl, rfl⟩
    have hge := grownCap_ge w (0 + n) 0 31
    have hle := grownCap_le_maxLen w (0 + n) 0 31 (by unfold maxLen; omega)
    refine ⟨_, rfl, ⟨rfl, Or.inr ⟨w.heap.size, grownCap w (0 + n) 0 31, _, rfl, Nat.le_refl _, heap_alloc_new w.drew _, by simp, hle, ?_, by simp⟩⟩, ⟨rfl, rfl, rfl, by simp, fun i hi _ => heap_alloc_old w.drew _ i hi⟩⟩
    show (#[] ++ Builtin.zeroCells (Value.int IntKind.u32 0).cells (0 + n - 0) ++ Builtin.zeroCells (Value.int IntKind.u32 0).cells (grownCap w (0 + n) 0 31 - (0 + n))).size = _
    rw [Array.size_append, Array.size_append, size_zeroCells, size_zeroCells]
    show 0 + (0 + n - 0) * 1 + (grownCap w (0 + n) 0 31 - (0 + n)) * 1 = _
    omega

set_option maxHeartbeats 1600000 in
set_option maxRecDepth 100000 in
/-- slices.Concat of two. -/
theorem concat_u (b cap : Nat) (x y : Value) (lx ly : List Int) (w : World) (c0 : w.cell? ⟨b, 0, none⟩ = some x) (c1 : w.cell? ⟨b, 1, none⟩ = some y) (hb : b < w.heap.size) (hx : Pl w x lx) (hy : Pl w y ly) (bx : lx.length < 10000) (byy : ly.length < 10000) :
    Calls Yba.prog 33 #[.slice (some ⟨b, 0, none⟩) 2 cap] w fun e w' => ∃ v, e = .returned v ∧ Ow w' w.heap.size v (lx ++ ly) ∧ w.grownBy w' none := by
  obtain ⟨ax, cx, rfl⟩ := hx.len
  obtain ⟨ay, cy, rfl⟩ := hy.len
  have HX : Hid (Pl w (.slice ax lx.length cx) lx) := hx
  have HY : Hid (Pl w (.slice ay ly.length cy) ly) := hy
  have HG : Hid (∀ w, Calls Yba.prog 67 #[.slice none 0 0, .int .i64 ((lx.length : Int) + (ly.length : Int))] w fun e w' => ∃ v, e = .returned v ∧ Ow w' w.heap.size v [] ∧ w.grownBy w' none) := fun w => by
    have := grow_u (lx.length + ly.length) w (by omega)
    rw [show (((lx.length + ly.length : Nat) : Int)) = (lx.length : Int) + (ly.length : Int) by omega] at this
    exact this
  have Hc0 : Hid (w.cell? ⟨b, 0, none⟩ = some (.slice ax lx.length cx)) := c0
  have Hc1 : Hid (w.cell? ⟨b, 1, none⟩ = some (.slice ay ly.length cy)) := c1
  have hsz : lx.length + ly.length < 1000000 := by omega
  clear hx hy
  generalize hn : lx.length = n at *
  generalize hm : ly.length = m at *
  go_enter Yba.func33, Yba.ntmps33
  go_wp2
  refine wp_loop_rounds 3 ?_
  rw [rounds_succ]
  go_wp2
  rw [rounds_succ]
  go_wp2
  rw [rounds_succ]
  go_wp2_with (go_at_call 67; refine (HG.out _).mono ?_; rintro e w1 ⟨v1, rfl, ho1, g1⟩)
  have k0 : w1.cell? ⟨b, 0, none⟩ = some (.slice ax n cx) := (World.cell?_of_block (g1.block b hb (by simp))).trans Hc0.out
  have k1 : w1.cell? ⟨b, 1, none⟩ = some (.slice ay m cy) := (World.cell?_of_block (g1.block b hb (by simp))).trans Hc1.out
  have HX1 : Hid (Pl w1 (.slice ax n cx) lx) := HX.out.f0 g1
  have HY1 : Hid (Pl w1 (.slice ay m cy) ly) := HY.out.f0 g1
  have HO1 : Hid (Ow w1 w.heap.size v1 []) := ho1
  have G1 : Hid (w.grownBy w1 none) := g1
  have hz : w.heap.size ≤ w1.heap.size := g1.size
  clear ho1 g1 c0 c1 HX
  refine wp_loop_rounds 3 ?_
  rw [rounds_succ]
  go_wp2_with (at_builtin; refine app_u rfl (.tmp 31) (.tmp 32) rfl w.heap.size v1 (.slice ax n cx) [] lx rfl rfl HO1.out HX1.out (by simp; omega) hz ?_; intro v2 w2 ho2 g2 hob2)
  have g02 := gnew G1.out g2 hob2
  have k2 : w2.cell? ⟨b, 1, none⟩ = some (.slice ay m cy) := (World.cell?_of_block (g02.block b hb (by simp))).trans Hc1.out
  have HY2 : Hid (Pl w2 (.slice ay m cy) ly) := HY.out.f0 g02
  have HO2 : Hid (Ow w2 w.heap.size v2 lx) := ho2
  have G2 : Hid (w.grownBy w2 none) := g02
  have hz2 : w.heap.size ≤ w2.heap.size := g02.size
  clear ho2 g02 g2 k0 k1 HX1 HY1 HO1 G1 hz hob2
  rw [rounds_succ]
  go_wp2_with (at_builtin; refine app_u rfl (.tmp 31) (.tmp 32) rfl w.heap.size v2 (.slice ay m cy) lx ly rfl rfl HO2.out HY2.out (by omega) hz2 ?_; intro v3 w3 ho3 g3 hob3)
  have G3 : Hid (w.grownBy w3 none) := gnew G2.out g3 hob3
  have HO3 : Hid (Ow w3 w.heap.size v3 (lx ++ ly)) := ho3
  clear ho3 g3 k2 HY2 HO2 G2 hz2 hob3
  rw [rounds_succ]
  go_wp2
  go_ret
  exact ⟨_, rfl, HO3.out, G3.out⟩
end Go.Proofs.Ybulkdbmw

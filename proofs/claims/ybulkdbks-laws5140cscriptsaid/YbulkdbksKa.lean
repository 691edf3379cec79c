import Derived.Test.YbulkdbksWords
namespace Go.Proofs.Ybulkdbks
open Go Go.RowKit

theorem info48s (c : Array Value) (h : c.size = 3) : (Yba.prog.info? 48).map (·.size) = some c.size := by rw [h]; kernel_rfl

/-- Ten cells of the node, written in their order. -/
def ten (w : World) (nb : Nat) (N K F : Int) (mb : Nat) : World :=
  (((((((((w.setCell ⟨nb, 112, none⟩ (.int .i64 N)).setCell ⟨nb, 113, none⟩ (.int .i64 K)).setCell ⟨nb, 114, none⟩ (.int .i64 F)).setCell ⟨nb, 115, none⟩ (.int .i64 0)).setCell ⟨nb, 116, none⟩ (.map (some mb))).setCell ⟨nb, 117, none⟩ (.pointer none)).setCell ⟨nb, 118, none⟩ (.pointer none)).setCell ⟨nb, 119, none⟩ (.pointer none)).setCell ⟨nb, 120, none⟩ .nilIface).setCell ⟨nb, 121, none⟩ (.int .i64 0)

set_option maxHeartbeats 1600000 in
set_option maxRecDepth 100000 in
theorem ka_walk (w : World) (nb : Nat) (N K F : Int) (c : Array Value) (hn : w.heap[nb]? = some (.cells c 77 (0, 0))) (hs : c.size = 122) : Calls Yba.prog 11 #[ptr nb 0, .agg #[.int .i64 N, .int .i64 K, .int .i64 F]] w fun r w' => r = .returned (.tuple #[]) ∧
    w' = ((ten w nb N K F (w.heap.size + 1)).alloc (.cells #[.int .i64 N, .int .i64 K, .int .i64 F] 48)).alloc (.map #[] 0) := by
  have ln : nb < w.heap.size := (Array.getElem?_eq_some_iff.1 hn).1
  have hc : ∀ i, i < 122 → ∃ v, w.cell? ⟨nb, i, none⟩ = some v := fun i hi => by
    refine ⟨c[i], ?_⟩
    unfold World.cell?
    rw [hn]
    simp
  obtain ⟨v112, k112⟩ := hc 112 (by decide)
  obtain ⟨v113, k113⟩ := hc 113 (by decide)
  obtain ⟨v114, k114⟩ := hc 114 (by decide)
  obtain ⟨v115, k115⟩ := hc 115 (by decide)
  obtain ⟨v116, k116⟩ := hc 116 (by decide)
  obtain ⟨v117, k117⟩ := hc 117 (by decide)
  obtain ⟨v118, k118⟩ := hc 118 (by decide)
  obtain ⟨v119, k119⟩ := hc 119 (by decide)
  obtain ⟨v120, k120⟩ := hc 120 (by decide)
  obtain ⟨v121, k121⟩ := hc 121 (by decide)
  have hfz : ∀ i, w.frozen? ⟨nb, i, none⟩ = false := fun i => Wr.fz ⟨_, _, hn⟩ i
  clear hc hn hs
  have hmm : ∀ wz : World, (Instr.makeMap 67 none).run Yba.prog wz = .ok (.map (some wz.heap.size)) (wz.alloc (.map #[] 0)) := fun wz => rfl
  go_enter Yba.func11, Yba.ntmps11
  go_wp2_with (first
      | (refine wpList_load_row rfl 48 (.tmp 3) rfl w.heap.size rfl 48 _ (0, 0) _ heap_new Yba.underlying48 rfl (info48s _ rfl) ?_))
  go_end0
  exact ⟨rfl, rfl⟩

theorem ten_heap {w : World} {nb : Nat} {N K F : Int} {mb : Nat} {c : Array Value} (hn : w.heap[nb]? = some (.cells c 77 (0, 0))) : (ten w nb N K F mb).heap[nb]? = some (.cells (((((((((((c.setIfInBounds 112 (.int .i64 N)).setIfInBounds 113 (.int .i64 K)).setIfInBounds 114 (.int .i64 F)).setIfInBounds 115 (.int .i64 0)).setIfInBounds 116 (.map (some mb))).setIfInBounds 117 (.pointer none)).setIfInBounds 118 (.pointer none)).setIfInBounds 119 (.pointer none)).setIfInBounds 120 .nilIface).setIfInBounds 121 (.int .i64 0))) 77 (0, 0)) := by
  unfold ten
  exact heap_set (heap_set (heap_set (heap_set (heap_set (heap_set (heap_set (heap_set (heap_set (heap_set hn _) _) _) _) _) _) _) _) _) _
theorem ten_ne {w : World} {nb b : Nat} {N K F : Int} {mb : Nat} (h : b ≠ nb) : (ten w nb N K F mb).heap[b]? = w.heap[b]? := by
  unfold ten
  iterate 10 rw [heap_set_ne (Ne.symm h)]
theorem ten_size {w : World} {nb : Nat} {N K F : Int} {mb : Nat} : (ten w nb N K F mb).heap.size = w.heap.size := by
  unfold ten
  simp only [World.setCell, Array.size_modify]

theorem ten_rest {w : World} {nb : Nat} {N K F : Int} {mb : Nat} : (ten w nb N K F mb).os = w.os ∧ (ten w nb N K F mb).tape = w.tape ∧ (ten w nb N K F mb).output = w.output := by
  unfold ten
  simp only [set_os, set_tape, set_output, and_self]
theorem al_os (w : World) (o : Obj) : (w.alloc o).os = w.os := rfl
theorem al_tape (w : World) (o : Obj) : (w.alloc o).tape = w.tape := rfl
theorem al_output (w : World) (o : Obj) : (w.alloc o).output = w.output := rfl

set_option maxHeartbeats 1000000 in
/-- The node keeps answers from now on: none yet. -/
theorem ka_any (w : World) (nb : Nat) (N K F : Int) (c : Array Value) (hn : w.heap[nb]? = some (.cells c 77 (0, 0))) (hs : c.size = 122) : Calls Yba.prog 11 #[ptr nb 0, .agg #[.int .i64 N, .int .i64 K, .int .i64 F]] w fun r w' => r = .returned (.tuple #[]) ∧
    Inv w' (kset (kset (fun _ => 0) nb 4) (w.heap.size + 1) 5) nb (w.heap.size + 1) N K F [] ∧ w.grownBy w' (some nb) := by
  refine (ka_walk w nb N K F c hn hs).mono ?_
  rintro r w' ⟨rfl, hw⟩
  have ln : nb < w.heap.size := (Array.getElem?_eq_some_iff.1 hn).1
  have st : (ten w nb N K F (w.heap.size + 1)).heap.size = w.heap.size := ten_size
  have s1 : ((ten w nb N K F (w.heap.size + 1)).alloc (.cells #[.int .i64 N, .int .i64 K, .int .i64 F] 48)).heap.size = w.heap.size + 1 := by simp [st]
  have old : ∀ b, b < w.heap.size → w'.heap[b]? = (ten w nb N K F (w.heap.size + 1)).heap[b]? := fun b hb => by
    rw [hw, heap_old (by rw [s1]; omega), heap_old (by rw [st]; exact hb)]
  have hb := (old nb ln).trans (ten_heap (N := N) (K := K) (F := F) (mb := w.heap.size + 1) hn)
  have so : w'.os = w.os ∧ w'.tape = w.tape ∧ w'.output = w.output := by rw [hw, al_os, al_os, al_tape, al_tape, al_output, al_output]; exact ten_rest
  have hm : w'.ownsMap Yba.prog 9 pElem (w.heap.size + 1) 0 (.map []) := by
    have := World.ownsMap_made ((ten w nb N K F (w.heap.size + 1)).alloc (.cells #[.int .i64 N, .int .i64 K, .int .i64 F] 48)) Yba.prog 9 pElem
    rw [s1, ← hw] at this
    exact this
  have sz : w.heap.size ≤ w'.heap.size := by have := hm.lt; omega
  clear hw
  refine ⟨rfl, ⟨?_, ⟨_, _, hb⟩, ?_, ?_, ?_, ?_, ?_, ?_, Or.inl ⟨rfl, ?_, ?_⟩, kset_eq _ _ _, ⟨.map [], hm, MapOk.nil⟩, List.nodup_nil, List.nodup_nil, List.nodup_nil, fun e he => by cases he⟩, ⟨so.1, so.2.1, so.2.2, sz, fun i hi hne => (old i hi).trans (ten_ne (fun h => hne (by rw [h])))⟩⟩
  · rw [kset_lt (by omega)]; exact kset_eq _ _ _
  all_goals
    unfold World.cell?
    rw [hb]
    simp [hs, heldOf]
end Go.Proofs.Ybulkdbks

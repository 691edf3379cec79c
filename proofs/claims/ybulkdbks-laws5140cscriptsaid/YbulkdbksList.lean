import Derived.Test.YbulkdbksMem
import Derived.LaidEqlPtr
namespace Go.Proofs.Ybulkdbks
open Go Go.RowKit

theorem cell_lt {w : World} {b i : Nat} {v : Value} (h : w.cell? ⟨b, i, none⟩ = some v) : b < w.heap.size := World.block_lt_of_cell? w _ h
theorem fz_alloc {w : World} {o : Obj} {b i : Nat} (hb : b < w.heap.size) (h : w.frozen? ⟨b, i, none⟩ = false) : (w.alloc o).frozen? ⟨b, i, none⟩ = false := by
  rw [← h]; apply World.frozen?_of_block
  show (w.heap.push o)[b]? = _
  rw [Array.getElem?_push, if_neg (Nat.ne_of_lt hb)]
theorem heap_new {w : World} {o : Obj} : (w.alloc o).heap[w.heap.size]? = some o := by
  show (w.heap.push o)[w.heap.size]? = _
  simp
theorem cell_new {w : World} {c : Array Value} {t i : Nat} {v : Value} (h : c[i]? = some v) : (w.alloc (.cells c t)).cell? ⟨w.heap.size, i, none⟩ = some v := by
  unfold World.cell?
  simp only [heap_new]
  simpa using h
theorem fz_new {w : World} {c : Array Value} {t i : Nat} : (w.alloc (.cells c t)).frozen? ⟨w.heap.size, i, none⟩ = false := by
  unfold World.frozen?
  simp only [heap_new]
  simp

/-- A block that can be written. -/
def Wr (w : World) (b : Nat) : Prop := ∃ c T, w.heap[b]? = some (.cells c T (0, 0))
theorem Wr.fz {w : World} {b : Nat} (h : Wr w b) (i : Nat) : w.frozen? ⟨b, i, none⟩ = false := by
  obtain ⟨c, T, h⟩ := h
  unfold World.frozen?
  simp [h]
theorem Wr.set {w : World} {b : Nat} (h : Wr w b) (b' i : Nat) (v : Value) : Wr (w.setCell ⟨b', i, none⟩ v) b := by
  obtain ⟨c, T, h⟩ := h
  by_cases e : b' = b
  · subst e; exact ⟨_, T, heap_set h v⟩
  · exact ⟨c, T, ((grown_set w b' i v).block b (by have := (Array.getElem?_eq_some_iff.1 h).1; exact this) (by simp [Ne.symm e])).trans h⟩
theorem Wr.alloc {w : World} {b : Nat} (h : Wr w b) (o : Obj) : Wr (w.alloc o) b := by
  obtain ⟨c, T, h⟩ := h
  exact ⟨c, T, heap_alloc_old h⟩
theorem Wr.lt {w : World} {b : Nat} (h : Wr w b) : b < w.heap.size := by
  obtain ⟨c, T, h⟩ := h
  exact (Array.getElem?_eq_some_iff.1 h).1

theorem info73 : ∃ j, Yba.prog.info? 73 = some j ∧ j.size ≠ 0 := by
  have h : (Yba.prog.info? 73).map (·.size) = some 5 := by kernel_rfl
  cases e : Yba.prog.info? 73 with
  | none => rw [e] at h; cases h
  | some j => rw [e] at h; exact ⟨j, rfl, by simp at h; omega⟩
theorem info71 : ∃ j, Yba.prog.info? 71 = some j ∧ j.size ≠ 0 := by
  have h : (Yba.prog.info? 71).map (·.size) = some 4 := by kernel_rfl
  cases e : Yba.prog.info? 71 with
  | none => rw [e] at h; cases h
  | some j => rw [e] at h; exact ⟨j, rfl, by simp at h; omega⟩
theorem eql69 (w : World) (b i : Nat) : (binOp .eql 69 (ptr b i) (ptr b i)).run Yba.prog w = .ok (.bool true) w := by
  obtain ⟨j, hj, _⟩ := info73
  exact run_eql_ptr_same w _ Yba.underlying69 hj
theorem eql68 (w : World) (b i : Nat) : (binOp .eql 68 (ptr b i) (ptr b i)).run Yba.prog w = .ok (.bool true) w := by
  obtain ⟨j, hj, _⟩ := info71
  exact run_eql_ptr_same w _ Yba.underlying68 hj
theorem eqn68 {w : World} {b i b' i' : Nat} (h : Wr w b) (h' : Wr w b') (hne : b ≠ b') : (binOp .eql 68 (ptr b i) (ptr b' i')).run Yba.prog w = .ok (.bool false) w := by
  obtain ⟨j, hj, hz⟩ := info71
  obtain ⟨c, T, h⟩ := h
  obtain ⟨c', T', h'⟩ := h'
  exact run_eql_ptr_other w Yba.underlying68 hj hz (fun e => hne (by injection e)) h h'
theorem nes69 (w : World) (b i : Nat) : (binOp .neq 69 (ptr b i) (ptr b i)).run Yba.prog w = .ok (.bool false) w := by
  obtain ⟨j, hj, _⟩ := info73
  have h : ∀ d : Nat, (Op.equalIn (d + 1) 69 (ptr b i) (ptr b i)).run Yba.prog w = .ok true w := fun d => by
    simp [Op.equalIn, run_underlying Yba.underlying69, sizeOf, typeInfo, hj, run_sameAddr_same]
  simp only [binOp]
  simp [Op.equal, Op.maxDepth, h 9999]
theorem nes68 (w : World) (b i : Nat) : (binOp .neq 68 (ptr b i) (ptr b i)).run Yba.prog w = .ok (.bool false) w := by
  obtain ⟨j, hj, _⟩ := info71
  have h : ∀ d : Nat, (Op.equalIn (d + 1) 68 (ptr b i) (ptr b i)).run Yba.prog w = .ok true w := fun d => by
    simp [Op.equalIn, run_underlying Yba.underlying68, sizeOf, typeInfo, hj, run_sameAddr_same]
  simp only [binOp]
  simp [Op.equal, Op.maxDepth, h 9999]
theorem nen68 {w : World} {b i b' i' : Nat} (h : Wr w b) (h' : Wr w b') (hne : b ≠ b') : (binOp .neq 68 (ptr b i) (ptr b' i')).run Yba.prog w = .ok (.bool true) w := by
  obtain ⟨j, hj, hz⟩ := info71
  obtain ⟨c, T, h⟩ := h
  obtain ⟨c', T', h'⟩ := h'
  have hn : (⟨b, i, none⟩ : Addr) ≠ ⟨b', i', none⟩ := fun e => hne (by injection e)
  have h : ∀ d : Nat, (Op.equalIn (d + 1) 68 (ptr b i) (ptr b' i')).run Yba.prog w = .ok false w := fun d => by
    simp [Op.equalIn, run_underlying Yba.underlying68, sizeOf, typeInfo, hj, hz, run_sameAddr_other w hn h h']
  simp only [binOp]
  simp [Op.equal, Op.maxDepth, h 9999]

/-- The new element's block. -/
abbrev elObj (v : Value) : Obj := .cells #[.pointer none, .pointer none, .pointer none, v] 71

set_option maxHeartbeats 400000 in
theorem insertValue_any (lb lo sb so : Nat) (n : Int) (v3 : Value) (w : World)
  (l0 : w.cell? ⟨lb, lo, none⟩ = some (ptr sb so)) (s1 : w.cell? ⟨sb, so + 1, none⟩ = some v3)
  (l4 : w.cell? ⟨lb, lo + 4, none⟩ = some (.int .i64 n)) (hn0 : 0 ≤ n) (hn1 : n ≤ 1000)
  (fs : ∀ i, w.frozen? ⟨sb, i, none⟩ = false) (fl : ∀ i, w.frozen? ⟨lb, i, none⟩ = false) (hsl : sb = lb → so = lo) (a0 : Nat) :
    Calls Yba.prog 54 #[ptr lb lo, .iface 102 (ptr a0 0), ptr lb lo] w fun e w' => e = .returned (ptr w.heap.size 0) ∧ w' = insW (w.alloc (elObj (.iface 102 (ptr a0 0)))) lb lo w.heap.size sb so n := by
  have hl := cell_lt l0
  have hs := cell_lt s1
  have HI : Hid _ := insert_any lb lo w.heap.size sb so n (.pointer none) (.pointer none) (.pointer none) v3 (w.alloc (elObj (.iface 102 (ptr a0 0))))
    (cell_new rfl) (cell_new rfl) (cell_new rfl)
    (cell?_alloc_old _ l0) (cell?_alloc_old _ s1) (cell?_alloc_old _ l4) hn0 hn1 (fun i => fz_new) (fun i => fz_alloc hs (fs i)) (fun i => fz_alloc hl (fl i)) (by omega) (by omega) hsl
  go_enter Yba.func54, Yba.ntmps54
  go_wp2_with (go_at_call 58; refine Calls.mono HI.out ?_; rintro e w' ⟨rfl, hw⟩; have HW : Hid _ := hw; clear hw)
  go_ret
  exact ⟨rfl, HW.out⟩

set_option maxHeartbeats 400000 in
theorem pushFront_any (lb lo sb so : Nat) (n : Int) (v3 : Value) (w : World)
  (l0 : w.cell? ⟨lb, lo, none⟩ = some (ptr sb so)) (s1 : w.cell? ⟨sb, so + 1, none⟩ = some v3)
  (l4 : w.cell? ⟨lb, lo + 4, none⟩ = some (.int .i64 n)) (hn0 : 0 ≤ n) (hn1 : n ≤ 1000)
  (fs : ∀ i, w.frozen? ⟨sb, i, none⟩ = false) (fl : ∀ i, w.frozen? ⟨lb, i, none⟩ = false) (hsl : sb = lb → so = lo) (a0 : Nat) :
    Calls Yba.prog 44 #[ptr lb lo, .iface 102 (ptr a0 0)] w fun e w' => e = .returned (ptr w.heap.size 0) ∧ w' = insW (w.alloc (elObj (.iface 102 (ptr a0 0)))) lb lo w.heap.size sb so n := by
  have HI : Hid _ := insertValue_any lb lo sb so n v3 w l0 s1 l4 hn0 hn1 fs fl hsl a0
  have HL : Hid _ := lazy_any lb lo sb so w l0
  go_enter Yba.func44, Yba.ntmps44
  go_wp2_with (first
    | (go_at_call 53; refine Calls.mono HL.out ?_; rintro e w' ⟨rfl, rfl⟩)
    | (go_at_call 54; refine Calls.mono HI.out ?_; rintro e w' ⟨rfl, hw⟩; have HW : Hid _ := hw; clear hw))
  go_ret
  exact ⟨rfl, HW.out⟩

theorem initW_cells {w : World} {lb lo : Nat} {v0 v1 v2 : Value}
  (l0 : w.cell? ⟨lb, lo, none⟩ = some v0) (l1 : w.cell? ⟨lb, lo + 1, none⟩ = some v1) (l4 : w.cell? ⟨lb, lo + 4, none⟩ = some v2) :
  (initW w lb lo).cell? ⟨lb, lo, none⟩ = some (ptr lb lo) ∧ (initW w lb lo).cell? ⟨lb, lo + 1, none⟩ = some (ptr lb lo) ∧ (initW w lb lo).cell? ⟨lb, lo + 4, none⟩ = some (.int .i64 0) := by
  unfold initW
  obtain ⟨w1, h1⟩ : ∃ w1, w1 = w.setCell ⟨lb, lo, none⟩ (ptr lb lo) := ⟨_, rfl⟩
  rw [← h1]
  obtain ⟨w2, h2⟩ : ∃ w2, w2 = w1.setCell ⟨lb, lo + 1, none⟩ (ptr lb lo) := ⟨_, rfl⟩
  rw [← h2]
  obtain ⟨w3, h3⟩ : ∃ w3, w3 = w2.setCell ⟨lb, lo + 4, none⟩ (.int .i64 0) := ⟨_, rfl⟩
  rw [← h3]
  refine ⟨?_, ?_, ?_⟩
  · rw [cs_ne h3 (by omega), cs_ne h2 (by omega)]; exact cs_eq h1 l0
  · rw [cs_ne h3 (by omega)]; exact cs_eq h2 ((cs_ne h1 (by omega)).trans l1)
  · exact cs_eq h3 ((cs_ne h2 (by omega)).trans ((cs_ne h1 (by omega)).trans l4))

set_option maxHeartbeats 400000 in
theorem pushFront_nil (lb lo : Nat) (v1 : Value) (w : World)
  (l0 : w.cell? ⟨lb, lo, none⟩ = some (.pointer none)) (l1 : w.cell? ⟨lb, lo + 1, none⟩ = some v1)
  (l4 : w.cell? ⟨lb, lo + 4, none⟩ = some (.int .i64 0)) (fl : ∀ i, w.frozen? ⟨lb, i, none⟩ = false) (a0 : Nat) :
    Calls Yba.prog 44 #[ptr lb lo, .iface 102 (ptr a0 0)] w fun e w' => e = .returned (ptr w.heap.size 0) ∧ w' = insW ((initW w lb lo).alloc (elObj (.iface 102 (ptr a0 0)))) lb lo w.heap.size lb lo 0 := by
  have HL : Hid _ := lazy_nil lb lo _ _ w l0 l1 l4 fl
  obtain ⟨c0, c1, c4⟩ := initW_cells l0 l1 l4
  have hz : (initW w lb lo).heap.size = w.heap.size := by simp [initW]
  have HI : Hid _ := insertValue_any lb lo lb lo 0 _ (initW w lb lo) c0 c1 c4 (by omega) (by omega) (fun i => by simp [initW, fl i]) (fun i => by simp [initW, fl i]) (fun _ => rfl) a0
  rw [hz] at HI
  clear c0 c1 c4
  go_enter Yba.func44, Yba.ntmps44
  go_wp2_with (first
    | (go_at_call 53; refine Calls.mono HL.out ?_; rintro e w' ⟨rfl, rfl⟩)
    | (go_at_call 54; refine Calls.mono HI.out ?_; rintro e w' ⟨rfl, hw⟩; have HW : Hid _ := hw; clear hw))
  go_ret
  exact ⟨rfl, HW.out⟩

set_option maxHeartbeats 400000 in
set_option maxRecDepth 100000 in
theorem remove_list (lb lo eb pb po sb so : Nat) (n : Int) (v0 v1 v3 : Value) (w : World)
  (e0 : w.cell? ⟨eb, 0, none⟩ = some (ptr sb so)) (e1 : w.cell? ⟨eb, 1, none⟩ = some (ptr pb po))
  (e2 : w.cell? ⟨eb, 2, none⟩ = some (ptr lb lo)) (e3 : w.cell? ⟨eb, 3, none⟩ = some v3)
  (p0 : w.cell? ⟨pb, po, none⟩ = some v0) (p1 : w.cell? ⟨sb, so + 1, none⟩ = some v1)
  (l4 : w.cell? ⟨lb, lo + 4, none⟩ = some (.int .i64 n)) (hn0 : 1 ≤ n) (hn1 : n ≤ 1000)
  (fe : ∀ i, w.frozen? ⟨eb, i, none⟩ = false) (fp : ∀ i, w.frozen? ⟨pb, i, none⟩ = false) (fs : ∀ i, w.frozen? ⟨sb, i, none⟩ = false) (fl : ∀ i, w.frozen? ⟨lb, i, none⟩ = false)
  (hpe : pb ≠ eb) (hse : sb ≠ eb) (hle : lb ≠ eb) (hps : pb = sb → po = so) (hpl : pb = lb → po = lo) (hsl : sb = lb → so = lo) :
    Calls Yba.prog 43 #[ptr lb lo, ptr eb 0] w fun e w' => e = .returned v3 ∧ ∃ d, w' = dr (remW w lb lo eb pb po sb so n) d := by
  have HR : Hid _ := remove_any lb lo eb pb po sb so n v0 v1 _ w e0 e1 e2 p0 p1 l4 hn0 hn1 fe fp fs fl hpe hse hle hps hpl hsl
  have H3 : Hid ((remW w lb lo eb pb po sb so n).cell? ⟨eb, 3, none⟩ = some v3) := by
    show _ = _
    unfold remW
    rw [cs_ne rfl (by omega), cs_ne rfl (by omega), cs_ne rfl (by omega), cs_ne rfl (by omega), cs_ne rfl (by omega), cs_ne rfl (by omega)]
    exact e3
  have H3' : Hid (∀ d, (dr (remW w lb lo eb pb po sb so n) d).cell? ⟨eb, 3, none⟩ = some v3) := fun d => (dr_cell _ d _).trans H3.out
  clear H3 e0 e1 e3 p0 p1 l4 fe fp fs fl hpe hse hle hps hpl hsl
  generalize remW w lb lo eb pb po sb so n = wr at *
  have hE := eql69 w lb lo
  go_enter Yba.func43, Yba.ntmps43
  go_wp2_with (go_at_call 52; refine Calls.mono HR.out ?_; rintro e w' ⟨rfl, d, hw⟩; have h3 : w'.cell? ⟨eb, 3, none⟩ = some v3 := (by rw [hw]; exact H3'.out d); have HW : Hid _ := hw; clear hw)
  go_ret
  exact ⟨rfl, d, HW.out⟩

/-- What move makes of a world. -/
def movW (w : World) (lb lo eb pb po sb so fb fo : Nat) : World :=
  ((((((w.setCell ⟨pb, po, none⟩ (ptr sb so)).setCell ⟨sb, so + 1, none⟩ (ptr pb po)).setCell ⟨eb, 1, none⟩ (ptr lb lo)).setCell ⟨eb, 0, none⟩ (ptr fb fo)).setCell ⟨lb, lo, none⟩ (ptr eb 0)).setCell ⟨fb, fo + 1, none⟩ (ptr eb 0))

set_option maxHeartbeats 1000000 in
theorem move_any (lb lo eb pb po sb so fb fo : Nat) (v0 v1 v2 : Value) (w : World)
  (e0 : w.cell? ⟨eb, 0, none⟩ = some (ptr sb so)) (e1 : w.cell? ⟨eb, 1, none⟩ = some (ptr pb po))
  (p0 : w.cell? ⟨pb, po, none⟩ = some v0) (p1 : w.cell? ⟨sb, so + 1, none⟩ = some v1)
  (l0 : w.cell? ⟨lb, lo, none⟩ = some (ptr fb fo)) (f1 : w.cell? ⟨fb, fo + 1, none⟩ = some v2)
  (we : Wr w eb) (wp : Wr w pb) (ws : Wr w sb) (wl : Wr w lb) (wf : Wr w fb)
  (hpe : pb ≠ eb) (hse : sb ≠ eb) (hle : lb ≠ eb) (hfe : fb ≠ eb) (hps : pb = sb → po = so) (hpl : pb ≠ lb) (hsl : sb = lb → so = lo) (hfl : fb = lb → fo = lo) (hfs : fb = sb → fo = so) (hfp : fb = pb → fo = po) :
    Calls Yba.prog 45 #[ptr lb lo, ptr eb 0, ptr lb lo] w fun e w' => e = .returned (.tuple #[]) ∧ ∃ d, w' = dr (movW w lb lo eb pb po sb so fb fo) d := by
  have hne := eqn68 (i := 0) (i' := lo) we wl hle.symm
  have fe := we.fz
  have fp := wp.fz
  have fs := ws.fz
  have fl := wl.fz
  have ff := wf.fz
  clear we wp ws wl wf
  go_enter Yba.func45, Yba.ntmps45
  go_wp2
  go_region
  clear hne
  obtain ⟨w1, hw1⟩ : ∃ w1, w1 = w.setCell ⟨pb, po, none⟩ (ptr sb so) := ⟨_, rfl⟩
  rw [← hw1]
  have q0 := (cs_ne (b' := eb) (i' := 0) hw1 (by omega)).trans e0
  have q1 := (cs_ne (b' := eb) (i' := 1) hw1 (by omega)).trans e1
  have q3 := (cs_ne (b' := sb) (i' := so + 1) hw1 (by omega)).trans p1
  have q4 := (cs_ne (b' := lb) (i' := lo) hw1 (by omega)).trans l0
  have q5 := (cs_ne (b' := fb) (i' := fo + 1) hw1 (by omega)).trans f1
  have g1 := cs_fz hw1 (fs (so + 1))
  have g2 := cs_fz hw1 (fe 0)
  have g3 := cs_fz hw1 (fe 1)
  have g5 := cs_fz hw1 (fl lo)
  have g6 := cs_fz hw1 (ff (fo + 1))
  have HW1 : Hid _ := hw1
  clear hw1
  go_wp2
  go_region
  obtain ⟨w2, hw2⟩ : ∃ w2, w2 = w1.setCell ⟨sb, so + 1, none⟩ (ptr pb po) := ⟨_, rfl⟩
  rw [← hw2]
  have r0 := (cs_ne (b' := eb) (i' := 0) hw2 (by omega)).trans q0
  have r1 := (cs_ne (b' := eb) (i' := 1) hw2 (by omega)).trans q1
  have r4 := (cs_ne (b' := lb) (i' := lo) hw2 (by omega)).trans q4
  have r5 : ∃ v, w2.cell? ⟨fb, fo + 1, none⟩ = some v := by
    by_cases h : sb = fb
    · obtain rfl := h
      obtain rfl := hfs rfl
      exact ⟨_, cs_eq hw2 q3⟩
    · exact ⟨_, (cs_ne hw2 (by omega)).trans q5⟩
  obtain ⟨v5, r5⟩ := r5
  have g2 := cs_fz hw2 g2
  have g3 := cs_fz hw2 g3
  have g5 := cs_fz hw2 g5
  have g6 := cs_fz hw2 g6
  have HW2 : Hid _ := hw2
  clear hw2 q0 q1 q3 q4 q5
  have hle' : eb ≠ lb := hle.symm
  have hfe' : eb ≠ fb := hfe.symm
  by_cases h : fb = lb
  · obtain rfl := hfl h
    subst h
    go_wp2
    go_end0
    unfold movW
    rw [← HW1.out, ← HW2.out]
    exact ⟨rfl, _, rfl⟩
  · have h' : lb ≠ fb := fun e => h e.symm
    go_wp2
    go_end0
    unfold movW
    rw [← HW1.out, ← HW2.out]
    exact ⟨rfl, _, rfl⟩

set_option maxHeartbeats 400000 in
theorem moveToFront_first (lb lo eb : Nat) (w : World) (e2 : w.cell? ⟨eb, 2, none⟩ = some (ptr lb lo)) (l0 : w.cell? ⟨lb, lo, none⟩ = some (ptr eb 0)) :
    Calls Yba.prog 33 #[ptr lb lo, ptr eb 0] w fun e w' => e = .returned (.tuple #[]) ∧ w' = w := by
  have h1 := nes69 w lb lo
  have h2 := eql68 w eb 0
  go_enter Yba.func33, Yba.ntmps33
  go_wp2
  refine bodyPost_ret (results_none rfl _ _ _) rfl ?_
  exact ⟨rfl, rfl⟩

set_option maxHeartbeats 400000 in
theorem moveToFront_any (lb lo eb pb po sb so fb fo : Nat) (v0 v1 v2 : Value) (w : World)
  (e0 : w.cell? ⟨eb, 0, none⟩ = some (ptr sb so)) (e1 : w.cell? ⟨eb, 1, none⟩ = some (ptr pb po)) (e2 : w.cell? ⟨eb, 2, none⟩ = some (ptr lb lo))
  (p0 : w.cell? ⟨pb, po, none⟩ = some v0) (p1 : w.cell? ⟨sb, so + 1, none⟩ = some v1)
  (l0 : w.cell? ⟨lb, lo, none⟩ = some (ptr fb fo)) (f1 : w.cell? ⟨fb, fo + 1, none⟩ = some v2)
  (we : Wr w eb) (wp : Wr w pb) (ws : Wr w sb) (wl : Wr w lb) (wf : Wr w fb)
  (hpe : pb ≠ eb) (hse : sb ≠ eb) (hle : lb ≠ eb) (hfe : fb ≠ eb) (hps : pb = sb → po = so) (hpl : pb ≠ lb) (hsl : sb = lb → so = lo) (hfl : fb = lb → fo = lo) (hfs : fb = sb → fo = so) (hfp : fb = pb → fo = po) :
    Calls Yba.prog 33 #[ptr lb lo, ptr eb 0] w fun e w' => e = .returned (.tuple #[]) ∧ ∃ d, w' = dr (movW w lb lo eb pb po sb so fb fo) d := by
  have HM : Hid _ := move_any lb lo eb pb po sb so fb fo v0 v1 v2 w e0 e1 p0 p1 l0 f1 we wp ws wl wf hpe hse hle hfe hps hpl hsl hfl hfs hfp
  have h1 := nes69 w lb lo
  have h2 := eqn68 (i := fo) (i' := 0) wf we hfe
  clear e0 e1 p0 p1 f1 we wp ws wl wf
  go_enter Yba.func33, Yba.ntmps33
  go_wp2_with (go_at_call 45; refine Calls.mono HM.out ?_; rintro e w' ⟨rfl, d, hw⟩; have HW : Hid _ := hw; clear hw)
  go_end0
  exact ⟨rfl, d, HW.out⟩

theorem len_any (lb lo : Nat) (n : Int) (w : World) (l4 : w.cell? ⟨lb, lo + 4, none⟩ = some (.int .i64 n)) :
    Calls Yba.prog 22 #[ptr lb lo] w fun e w' => e = .returned (.int .i64 n) ∧ w' = w := by
  go_enter Yba.func22, Yba.ntmps22
  go_wp2
  go_ret
  exact ⟨rfl, rfl⟩

theorem front_nil (lb lo : Nat) (w : World) (l4 : w.cell? ⟨lb, lo + 4, none⟩ = some (.int .i64 0)) :
    Calls Yba.prog 23 #[ptr lb lo] w fun e w' => e = .returned (.pointer none) ∧ w' = w := by
  go_enter Yba.func23, Yba.ntmps23
  go_wp2
  go_ret
  exact ⟨rfl, rfl⟩

theorem front_any (lb lo : Nat) (n : Int) (v : Value) (w : World) (l4 : w.cell? ⟨lb, lo + 4, none⟩ = some (.int .i64 n)) (hn : 1 ≤ n) (l0 : w.cell? ⟨lb, lo, none⟩ = some v) :
    Calls Yba.prog 23 #[ptr lb lo] w fun e w' => e = .returned v ∧ w' = w := by
  have hd : decide (n = 0) = false := by simp; omega
  go_enter Yba.func23, Yba.ntmps23
  go_wp2
  go_ret
  exact ⟨rfl, rfl⟩

theorem back_any (lb lo : Nat) (n : Int) (v : Value) (w : World) (l4 : w.cell? ⟨lb, lo + 4, none⟩ = some (.int .i64 n)) (hn : 1 ≤ n) (l0 : w.cell? ⟨lb, lo + 1, none⟩ = some v) :
    Calls Yba.prog 46 #[ptr lb lo] w fun e w' => e = .returned v ∧ w' = w := by
  have hd : decide (n = 0) = false := by simp; omega
  go_enter Yba.func46, Yba.ntmps46
  go_wp2
  go_ret
  exact ⟨rfl, rfl⟩

theorem next_last (lb lo eb : Nat) (w : World) (e0 : w.cell? ⟨eb, 0, none⟩ = some (ptr lb lo)) (e2 : w.cell? ⟨eb, 2, none⟩ = some (ptr lb lo)) :
    Calls Yba.prog 24 #[ptr eb 0] w fun e w' => e = .returned (.pointer none) ∧ w' = w := by
  have h1 := nes68 w lb lo
  go_enter Yba.func24, Yba.ntmps24
  go_wp2
  go_ret
  exact ⟨rfl, rfl⟩

theorem next_any (lb lo eb sb so : Nat) (w : World) (e0 : w.cell? ⟨eb, 0, none⟩ = some (ptr sb so)) (e2 : w.cell? ⟨eb, 2, none⟩ = some (ptr lb lo)) (ws : Wr w sb) (wl : Wr w lb) (hne : sb ≠ lb) :
    Calls Yba.prog 24 #[ptr eb 0] w fun e w' => e = .returned (ptr sb so) ∧ w' = w := by
  have h1 := nen68 (i := so) (i' := lo) ws wl hne
  go_enter Yba.func24, Yba.ntmps24
  go_wp2
  go_ret
  exact ⟨rfl, rfl⟩
end Go.Proofs.Ybulkdbks

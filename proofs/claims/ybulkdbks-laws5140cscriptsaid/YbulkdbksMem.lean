import Derived.Test.YbulkdbksWire
namespace Go.Proofs.Ybulkdbks
open Go Go.RowKit

/-- A pointer to a place. -/
abbrev ptr (b i : Nat) : Value := .pointer (some ⟨b, i, none⟩)

theorem cs_ne {w w1 : World} {b i b' i' : Nat} {v : Value} (hw : w1 = w.setCell ⟨b, i, none⟩ v) (h : ¬ (b = b' ∧ i = i')) : w1.cell? ⟨b', i', none⟩ = w.cell? ⟨b', i', none⟩ := by
  subst hw
  refine World.cell?_setCell_other _ _ _ _ (fun e => h ?_)
  simpa using e
theorem cs_eq {w w1 : World} {b i : Nat} {v u : Value} (hw : w1 = w.setCell ⟨b, i, none⟩ v) (h : w.cell? ⟨b, i, none⟩ = some u) : w1.cell? ⟨b, i, none⟩ = some v := by
  subst hw
  exact World.cell?_setCell_same _ _ _ h
theorem cs_fz {w w1 : World} {a a' : Addr} {v : Value} {t : Bool} (hw : w1 = w.setCell a v) (h : w.frozen? a' = t) : w1.frozen? a' = t := by
  subst hw
  rw [World.frozen?_setCell]; exact h

/-- The same world, some draws on. -/
def dr (w : World) (d : Nat) : World := { w with drawn := d }
theorem dr_heap (w : World) (d : Nat) : (dr w d).heap = w.heap := rfl
theorem dr_cell (w : World) (d : Nat) (a : Addr) : (dr w d).cell? a = w.cell? a := rfl
theorem dr_fz (w : World) (d : Nat) (a : Addr) : (dr w d).frozen? a = w.frozen? a := rfl

/-- What remove makes of a world. -/
def remW (w : World) (lb lo eb pb po sb so : Nat) (n : Int) : World :=
  ((((((w.setCell ⟨pb, po, none⟩ (ptr sb so)).setCell ⟨sb, so + 1, none⟩ (ptr pb po)).setCell ⟨eb, 0, none⟩ (.pointer none)).setCell ⟨eb, 1, none⟩ (.pointer none)).setCell ⟨eb, 2, none⟩ (.pointer none)).setCell ⟨lb, lo + 4, none⟩ (.int .i64 (n - 1)))
/-- What insert makes of a world. -/
def insW (w : World) (lb lo eb sb so : Nat) (n : Int) : World :=
  ((((((w.setCell ⟨eb, 1, none⟩ (ptr lb lo)).setCell ⟨eb, 0, none⟩ (ptr sb so)).setCell ⟨lb, lo, none⟩ (ptr eb 0)).setCell ⟨sb, so + 1, none⟩ (ptr eb 0)).setCell ⟨eb, 2, none⟩ (ptr lb lo)).setCell ⟨lb, lo + 4, none⟩ (.int .i64 (n + 1)))
/-- What Init makes of a world. -/
def initW (w : World) (lb lo : Nat) : World := ((w.setCell ⟨lb, lo, none⟩ (ptr lb lo)).setCell ⟨lb, lo + 1, none⟩ (ptr lb lo)).setCell ⟨lb, lo + 4, none⟩ (.int .i64 0)

set_option maxHeartbeats 400000 in
theorem remove_any (lb lo eb pb po sb so : Nat) (n : Int) (v0 v1 v2 : Value) (w : World)
  (e0 : w.cell? ⟨eb, 0, none⟩ = some (ptr sb so)) (e1 : w.cell? ⟨eb, 1, none⟩ = some (ptr pb po))
  (e2 : w.cell? ⟨eb, 2, none⟩ = some v2)
  (p0 : w.cell? ⟨pb, po, none⟩ = some v0) (p1 : w.cell? ⟨sb, so + 1, none⟩ = some v1)
  (l4 : w.cell? ⟨lb, lo + 4, none⟩ = some (.int .i64 n)) (hn0 : 1 ≤ n) (hn1 : n ≤ 1000)
  (fe : ∀ i, w.frozen? ⟨eb, i, none⟩ = false) (fp : ∀ i, w.frozen? ⟨pb, i, none⟩ = false) (fs : ∀ i, w.frozen? ⟨sb, i, none⟩ = false) (fl : ∀ i, w.frozen? ⟨lb, i, none⟩ = false) 
  (hpe : pb ≠ eb) (hse : sb ≠ eb) (hle : lb ≠ eb) (hps : pb = sb → po = so) (hpl : pb = lb → po = lo) (hsl : sb = lb → so = lo) :
    Calls Yba.prog 52 #[ptr lb lo, ptr eb 0] w fun e w' => e = .returned (.tuple #[]) ∧ ∃ d, w' = dr (remW w lb lo eb pb po sb so n) d := by
  go_enter Yba.func52, Yba.ntmps52
  go_wp2
  go_region
  obtain ⟨w1, hw1⟩ : ∃ w1, w1 = w.setCell ⟨pb, po, none⟩ (ptr sb so) := ⟨_, rfl⟩
  rw [← hw1]
  have q0 := (cs_ne (b' := eb) (i' := 0) hw1 (by omega)).trans e0
  have q1 := (cs_ne (b' := eb) (i' := 1) hw1 (by omega)).trans e1
  have q2 := (cs_ne (b' := eb) (i' := 2) hw1 (by omega)).trans e2
  have q3 := (cs_ne (b' := sb) (i' := so + 1) hw1 (by omega)).trans p1
  have q4 := (cs_ne (b' := lb) (i' := lo + 4) hw1 (by omega)).trans l4
  have g1 := cs_fz hw1 (fs (so + 1))
  have g2 := cs_fz hw1 (fe 0)
  have g3 := cs_fz hw1 (fe 1)
  have g4 := cs_fz hw1 (fe 2)
  have g5 := cs_fz hw1 (fl (lo + 4))
  have HW1 : Hid _ := hw1
  clear hw1
  go_wp2
  go_region
  obtain ⟨w2, hw2⟩ : ∃ w2, w2 = w1.setCell ⟨sb, so + 1, none⟩ (ptr pb po) := ⟨_, rfl⟩
  rw [← hw2]
  have r0 := (cs_ne (b' := eb) (i' := 0) hw2 (by omega)).trans q0
  have r1 := (cs_ne (b' := eb) (i' := 1) hw2 (by omega)).trans q1
  have r2 := (cs_ne (b' := eb) (i' := 2) hw2 (by omega)).trans q2
  have r4 := (cs_ne (b' := lb) (i' := lo + 4) hw2 (by omega)).trans q4
  have g2 := cs_fz hw2 g2
  have g3 := cs_fz hw2 g3
  have g4 := cs_fz hw2 g4
  have g5 := cs_fz hw2 g5
  have HW2 : Hid _ := hw2
  clear hw2
  go_wp2
  go_end0
  unfold remW
  rw [← HW1.out, ← HW2.out]
  exact ⟨rfl, _, rfl⟩

set_option maxHeartbeats 400000 in
theorem insert_any (lb lo eb sb so : Nat) (n : Int) (v0 v1 v2 v3 : Value) (w : World)
  (e0 : w.cell? ⟨eb, 0, none⟩ = some v0) (e1 : w.cell? ⟨eb, 1, none⟩ = some v1) (e2 : w.cell? ⟨eb, 2, none⟩ = some v2)
  (l0 : w.cell? ⟨lb, lo, none⟩ = some (ptr sb so)) (s1 : w.cell? ⟨sb, so + 1, none⟩ = some v3)
  (l4 : w.cell? ⟨lb, lo + 4, none⟩ = some (.int .i64 n)) (hn0 : 0 ≤ n) (hn1 : n ≤ 1000)
  (fe : ∀ i, w.frozen? ⟨eb, i, none⟩ = false) (fs : ∀ i, w.frozen? ⟨sb, i, none⟩ = false) (fl : ∀ i, w.frozen? ⟨lb, i, none⟩ = false)
  (hse : sb ≠ eb) (hle : lb ≠ eb) (hsl : sb = lb → so = lo) :
    Calls Yba.prog 58 #[ptr lb lo, ptr eb 0, ptr lb lo] w fun e w' => e = .returned (ptr eb 0) ∧ w' = insW w lb lo eb sb so n := by
  have hse' : eb ≠ sb := hse.symm
  have hle' : eb ≠ lb := hle.symm
  by_cases h : sb = lb
  · obtain rfl := hsl h
    subst h
    go_enter Yba.func58, Yba.ntmps58
    go_wp2
    go_ret
    exact ⟨rfl, rfl⟩
  · have h' : lb ≠ sb := fun e => h e.symm
    go_enter Yba.func58, Yba.ntmps58
    go_wp2
    go_ret
    exact ⟨rfl, rfl⟩

set_option maxHeartbeats 400000 in
theorem init_any (lb lo : Nat) (v0 v1 v2 : Value) (w : World)
  (l0 : w.cell? ⟨lb, lo, none⟩ = some v0) (l1 : w.cell? ⟨lb, lo + 1, none⟩ = some v1) (l4 : w.cell? ⟨lb, lo + 4, none⟩ = some v2)
  (fl : ∀ i, w.frozen? ⟨lb, i, none⟩ = false) :
    Calls Yba.prog 57 #[ptr lb lo] w fun e w' => e = .returned (ptr lb lo) ∧ w' = initW w lb lo := by
  go_enter Yba.func57, Yba.ntmps57
  go_wp2
  go_ret
  exact ⟨rfl, rfl⟩

theorem lazy_any (lb lo b i : Nat) (w : World) (l0 : w.cell? ⟨lb, lo, none⟩ = some (ptr b i)) :
    Calls Yba.prog 53 #[ptr lb lo] w fun e w' => e = .returned (.tuple #[]) ∧ w' = w := by
  go_enter Yba.func53, Yba.ntmps53
  go_wp2
  go_end0
  exact ⟨rfl, rfl⟩

theorem lazy_nil (lb lo : Nat) (v1 v2 : Value) (w : World)
  (l0 : w.cell? ⟨lb, lo, none⟩ = some (.pointer none)) (l1 : w.cell? ⟨lb, lo + 1, none⟩ = some v1) (l4 : w.cell? ⟨lb, lo + 4, none⟩ = some v2)
  (fl : ∀ i, w.frozen? ⟨lb, i, none⟩ = false) :
    Calls Yba.prog 53 #[ptr lb lo] w fun e w' => e = .returned (.tuple #[]) ∧ w' = initW w lb lo := by
  go_enter Yba.func53, Yba.ntmps53
  go_wp2_with (go_at_call 57; refine (init_any lb lo _ v1 v2 _ l0 l1 l4 fl).mono ?_; rintro e w' ⟨rfl, rfl⟩)
  go_end0
  exact ⟨rfl, rfl⟩

end Go.Proofs.Ybulkdbks

import Derived.Test.YbulkdbmwPins
namespace Go.Proofs.Ybulkdbmw
open Go Go.RowKit Go.Sort

/-- The counter of swaps, in a block of its own. -/
structure Sc (w0 w : World) (blk off : Nat) (d : Array Int) (sb s : Nat) : Prop where
  sw : Sw w0 w blk off d
  cs : w.cell? ⟨sb, 0, none⟩ = some (.int .i64 s)
  fs : w.frozen? ⟨sb, 0, none⟩ = false

theorem Sc.dN {w0 w : World} {blk off sb s : Nat} {d : Array Int} (h : Sc w0 w blk off d sb s) (n : Nat) : Sc w0 (w.drewN n) blk off d sb s := ⟨h.sw.dN n, h.cs, h.fs⟩

theorem Sc.set {w0 w : World} {blk off sb s : Nat} {d : Array Int} (h : Sc w0 w blk off d sb s) (hn : w0.heap.size ≤ sb) (hb : sb ≠ blk) (s' : Nat) : Sc w0 (w.setCell ⟨sb, 0, none⟩ (.int .i64 s')) blk off d sb s' := by
  refine ⟨⟨fun j hj => ?_, fun j => by rw [World.frozen?_setCell]; exact h.sw.fz j, ?_⟩, World.cell?_setCell_same _ _ _ h.cs, by rw [World.frozen?_setCell]; exact h.fs⟩
  · rw [World.cell?_setCell_other _ _ _ _ (fun e => hb (by injection e))]
    exact h.sw.hd j hj
  · have g := set_grown w sb 0 (.int .i64 s')
    exact ⟨g.os.trans h.sw.gr.os, g.tape.trans h.sw.gr.tape, g.output.trans h.sw.gr.output, Nat.le_trans h.sw.gr.size g.size, fun i hi hne => (g.block i (Nat.lt_of_lt_of_le hi h.sw.gr.size) (fun e => by injection e with e; omega)).trans (h.sw.gr.block i hi hne)⟩

theorem Sc.same {w0 w w' : World} {blk off sb s : Nat} {d : Array Int} (h : Sc w0 w blk off d sb s) (hh : w'.heap = w.heap) (ho : w'.os = w.os) (ht : w'.tape = w.tape) (hu : w'.output = w.output) : Sc w0 w' blk off d sb s :=
  ⟨h.sw.same hh ho ht hu, by have := h.cs; unfold World.cell? at this ⊢; rw [hh]; exact this, by have := h.fs; unfold World.frozen? at this ⊢; rw [hh]; exact this⟩

set_option maxHeartbeats 1600000 in
theorem order2_u (blk off cap a b sb s : Nat) (d : Array Int) (w0 w : World) (hS : Sc w0 w blk off d sb s) (hn : w0.heap.size ≤ sb) (hne : sb ≠ blk) (ha : a < d.size) (hb : b < d.size) (hs : s < 1000) (_hsz : d.size < 1000000) :
    Calls Yba.prog 94 #[.slice (some ⟨blk, off, none⟩) d.size cap, .int .i64 a, .int .i64 b, .pointer (some ⟨sb, 0, none⟩)] w fun e w' => e = .returned (.tuple #[.int .i64 (order2 ltInt d a b s).1, .int .i64 (order2 ltInt d a b s).2.1]) ∧ Sc w0 w' blk off d sb (order2 ltInt d a b s).2.2 := by
  have c1 := hS.sw.hd a ha
  have c2 := hS.sw.hd b hb
  have cs := hS.cs
  have fs := hS.fs
  have HS : Hid (Sc w0 w blk off d sb s) := hS
  have Hset : Hid _ := hS.set hn hne (s + 1)
  have HLs1 : Hid _ := less_u d[b]! d[a]!
  have haI : (a : Int) < (d.size : Int) := by omega
  have hbI : (b : Int) < (d.size : Int) := by omega
  by_cases hl : ltInt d[b]! d[a]! = true
  · have Ho : Hid (order2 ltInt d a b s = (b, a, s + 1)) := if_pos hl
    rw [hl] at HLs1
    generalize order2 ltInt d a b s = R at *
    clear hS hl
    generalize d.size = n at *
    generalize d[a]! = x at *
    generalize d[b]! = y at *
    go_enter Yba.func94, Yba.ntmps94
    go_wp2_with fail
    go_quiet ((go_at_call 52; exact Calls.quiet_of_same (HLs1.out _)))
    rename_i nq
    go_wp2_with fail
    go_ret2
    exact ⟨by rw [Ho.out]; rfl, by rw [Ho.out]; exact Hset.out.same rfl rfl rfl rfl⟩
  · have hlf : ltInt d[b]! d[a]! = false := by simpa using hl
    have Ho : Hid (order2 ltInt d a b s = (a, b, s)) := if_neg hl
    rw [hlf] at HLs1
    generalize order2 ltInt d a b s = R at *
    clear hS hl hlf
    generalize d.size = n at *
    generalize d[a]! = x at *
    generalize d[b]! = y at *
    go_enter Yba.func94, Yba.ntmps94
    go_wp2_with fail
    go_quiet ((go_at_call 52; exact Calls.quiet_of_same (HLs1.out _)))
    rename_i nq
    go_wp2_with fail
    go_ret2
    exact ⟨by rw [Ho.out]; rfl, by rw [Ho.out]; exact HS.out.dN nq⟩

theorem order2_in {d : Array Int} {a b s n : Nat} (ha : a < n) (hb : b < n) (_hs : s ≤ 900) : (order2 ltInt d a b s).1 < n ∧ (order2 ltInt d a b s).2.1 < n ∧ s ≤ (order2 ltInt d a b s).2.2 ∧ (order2 ltInt d a b s).2.2 ≤ s + 1 := by
  unfold order2
  split <;> simp <;> omega

set_option maxHeartbeats 1600000 in
theorem median_u (blk off cap a b c sb s : Nat) (d : Array Int) (w0 w : World) (hS : Sc w0 w blk off d sb s) (hn : w0.heap.size ≤ sb) (hne : sb ≠ blk) (ha : a < d.size) (hb : b < d.size) (hc : c < d.size) (hs : s < 500) (hsz : d.size < 1000000) :
    Calls Yba.prog 84 #[.slice (some ⟨blk, off, none⟩) d.size cap, .int .i64 a, .int .i64 b, .int .i64 c, .pointer (some ⟨sb, 0, none⟩)] w fun e w' => e = .returned (.int .i64 (median ltInt d a b c s).1) ∧ Sc w0 w' blk off d sb (median ltInt d a b c s).2 := by
  obtain ⟨r1, hr1⟩ : ∃ r1, order2 ltInt d a b s = r1 := ⟨_, rfl⟩
  obtain ⟨r2, hr2⟩ : ∃ r2, order2 ltInt d r1.2.1 c r1.2.2 = r2 := ⟨_, rfl⟩
  obtain ⟨r3, hr3⟩ : ∃ r3, order2 ltInt d r1.1 r2.1 r2.2.2 = r3 := ⟨_, rfl⟩
  have hm : median ltInt d a b c s = (r3.2.1, r3.2.2) := by
    unfold median
    simp only [hr1, hr2, hr3]
  have i1 := order2_in (d := d) ha hb (by omega : s ≤ 900)
  rw [hr1] at i1
  have i2 := order2_in (d := d) i1.2.1 hc (by omega : r1.2.2 ≤ 900)
  rw [hr2] at i2
  have H1 : Hid _ := order2_u blk off cap a b sb s d w0 w hS hn hne ha hb (by omega) hsz
  rw [hr1] at H1
  have H2 : Hid (∀ wz, Sc w0 wz blk off d sb r1.2.2 → Calls Yba.prog 94 #[.slice (some ⟨blk, off, none⟩) d.size cap, .int .i64 r1.2.1, .int .i64 c, .pointer (some ⟨sb, 0, none⟩)] wz fun e w' => e = .returned (.tuple #[.int .i64 r2.1, .int .i64 r2.2.1]) ∧ Sc w0 w' blk off d sb r2.2.2) := fun wz h => by
    have := order2_u blk off cap r1.2.1 c sb r1.2.2 d w0 wz h hn hne i1.2.1 hc (by omega) hsz
    rw [hr2] at this
    exact this
  have H3 : Hid (∀ wz, Sc w0 wz blk off d sb r2.2.2 → Calls Yba.prog 94 #[.slice (some ⟨blk, off, none⟩) d.size cap, .int .i64 r1.1, .int .i64 r2.1, .pointer (some ⟨sb, 0, none⟩)] wz fun e w' => e = .returned (.tuple #[.int .i64 r3.1, .int .i64 r3.2.1]) ∧ Sc w0 w' blk off d sb r3.2.2) := fun wz h => by
    have := order2_u blk off cap r1.1 r2.1 sb r2.2.2 d w0 wz h hn hne i1.1 i2.1 (by omega) hsz
    rw [hr3] at this
    exact this
  rw [hm]
  clear hS hr1 hr2 hr3 hm i1 i2
  obtain ⟨x1, y1, z1⟩ := r1
  obtain ⟨x2, y2, z2⟩ := r2
  obtain ⟨x3, y3, z3⟩ := r3
  simp only at H1 H2 H3 ⊢
  generalize d.size = n at *
  go_enter Yba.func84, Yba.ntmps84
  go_upto_region 2 with (go_at_call 94; refine Calls.mono H1.out ?_; rintro e w1 ⟨rfl, h1⟩; have HS1 : Hid _ := h1; clear h1)
  go_upto_region 3 with (go_at_call 94; refine Calls.mono (H2.out _ HS1.out) ?_; rintro e w2 ⟨rfl, h1⟩; have HS2 : Hid _ := h1; clear h1)
  go_wp2_with (go_at_call 94; refine Calls.mono (H3.out _ HS2.out) ?_; rintro e w3 ⟨rfl, h1⟩; have HS3 : Hid _ := h1; clear h1)
  go_ret
  exact ⟨rfl, HS3.out⟩

theorem median_in {d : Array Int} {a b c s n : Nat} (ha : a < n) (hb : b < n) (hc : c < n) (hs : s ≤ 800) : (median ltInt d a b c s).1 < n ∧ (median ltInt d a b c s).2 ≤ s + 3 := by
  unfold median
  have i1 := order2_in (d := d) ha hb (by omega : s ≤ 900)
  have i2 := order2_in (d := d) i1.2.1 hc (by omega : (order2 ltInt d a b s).2.2 ≤ 900)
  have i3 := order2_in (d := d) i1.1 i2.1 (by omega : (order2 ltInt d (order2 ltInt d a b s).2.1 c (order2 ltInt d a b s).2.2).2.2 ≤ 900)
  exact ⟨i3.2.1, by simp only; omega⟩

set_option maxHeartbeats 1600000 in
theorem medianAdj_u (blk off cap a sb s : Nat) (d : Array Int) (w0 w : World) (hS : Sc w0 w blk off d sb s) (hn : w0.heap.size ≤ sb) (hne : sb ≠ blk) (ha : 1 ≤ a) (hb : a + 1 < d.size) (hs : s < 500) (hsz : d.size < 1000000) :
    Calls Yba.prog 83 #[.slice (some ⟨blk, off, none⟩) d.size cap, .int .i64 a, .pointer (some ⟨sb, 0, none⟩)] w fun e w' => e = .returned (.int .i64 (medianAdjacent ltInt d a s).1) ∧ Sc w0 w' blk off d sb (medianAdjacent ltInt d a s).2 := by
  obtain ⟨k, rfl⟩ : ∃ k, a = k + 1 := ⟨a - 1, by omega⟩
  have H1 : Hid _ := median_u blk off cap k (k + 1) (k + 1 + 1) sb s d w0 w hS hn hne (by omega) (by omega) (by omega) hs hsz
  have e : median ltInt d k (k + 1) (k + 1 + 1) s = medianAdjacent ltInt d (k + 1) s := rfl
  rw [e] at H1
  generalize medianAdjacent ltInt d (k + 1) s = R at *
  clear hS e
  generalize d.size = n at *
  go_enter Yba.func83, Yba.ntmps83
  go_wp2_with (go_at_call 84; refine Calls.mono H1.out ?_; rintro e w1 ⟨rfl, h1⟩; have HS1 : Hid _ := h1; clear h1)
  go_ret
  exact ⟨rfl, HS1.out⟩

def hintOf (s : Nat) : Hint := if s = 0 then .increasing else if s = 12 then .decreasing else .unknown

theorem pivot_eq (d : Array Int) (a L : Nat) (hL : 8 ≤ L) : choosePivot ltInt d a (a + L) = (if 50 ≤ L then
    let ri := medianAdjacent ltInt d (a + L / 4 * 1) 0
    let rj := medianAdjacent ltInt d (a + L / 4 * 2) ri.2
    let rk := medianAdjacent ltInt d (a + L / 4 * 3) rj.2
    let r := median ltInt d ri.1 rj.1 rk.1 rk.2
    (r.1, hintOf r.2)
  else
    let r := median ltInt d (a + L / 4 * 1) (a + L / 4 * 2) (a + L / 4 * 3) 0
    (r.1, hintOf r.2)) := by
  unfold choosePivot
  simp only [Nat.add_sub_cancel_left]
  rw [if_pos hL]
  by_cases h : 50 ≤ L
  · rw [if_pos h, if_pos h]; rfl
  · rw [if_neg h, if_neg h]; rfl

theorem medianAdj_in {d : Array Int} {a s n : Nat} (ha : 1 ≤ a) (hb : a + 1 < n) (hs : s ≤ 800) : (medianAdjacent ltInt d a s).1 < n ∧ (medianAdjacent ltInt d a s).2 ≤ s + 3 := median_in (by omega) (by omega) hb hs

def hcode : Hint → Int
  | .unknown => 0
  | .increasing => 1
  | .decreasing => 2

set_option maxHeartbeats 3200000 in
set_option maxRecDepth 100000 in
theorem pivot_u (blk off cap a L : Nat) (d : Array Int) (w0 w : World) (hS : Sw w0 w blk off d) (hbl : blk < w.heap.size) (hL : 8 ≤ L) (hb : a + L ≤ d.size) (hsz : d.size < 1000000) :
    Calls Yba.prog 49 #[.slice (some ⟨blk, off, none⟩) d.size cap, .int .i64 a, .int .i64 ((a : Int) + (L : Int))] w fun e w' => e = .returned (.tuple #[.int .i64 (choosePivot ltInt d a (a + L)).1, .int .i64 (hcode (choosePivot ltInt d a (a + L)).2)]) ∧ Sw w0 w' blk off d := by
  have hsz0 := hS.gr.size
  have HA : Hid (Sc w0 (w.alloc (.cells #[.int .i64 0] 3)) blk off d w.heap.size 0) := by
    refine ⟨⟨fun j hj => ?_, fun j => ?_, gtr hS.gr (World.grownBy_alloc w _ (some blk))⟩, ?_, ?_⟩
    · have e : (w.alloc (.cells #[.int .i64 0] 3)).heap[blk]? = w.heap[blk]? := (World.grownBy_alloc w _ none).block blk hbl (by simp)
      rw [World.cell?_of_block e]; exact hS.hd j hj
    · have e : (w.alloc (.cells #[.int .i64 0] 3)).heap[blk]? = w.heap[blk]? := (World.grownBy_alloc w _ none).block blk hbl (by simp)
      rw [World.frozen?_of_block e]; exact hS.fz j
    · unfold World.cell? World.alloc; simp
    · unfold World.frozen? World.alloc; simp
  have hne : w.heap.size ≠ blk := by omega
  have hq : ((L : Int)) / 4 = ((L / 4 : Nat) : Int) := by omega
  obtain ⟨q, hqd⟩ : ∃ q, L / 4 = q := ⟨_, rfl⟩
  have hq4 : 2 ≤ q ∧ 4 * q ≤ L := by omega
  rw [pivot_eq d a L hL]
  rw [hqd]
  by_cases h50 : 50 ≤ L
  · rw [if_pos h50]
    obtain ⟨i1, i2, hri⟩ : ∃ i1 i2, medianAdjacent ltInt d (a + q * 1) 0 = (i1, i2) := ⟨_, _, rfl⟩
    obtain ⟨j1, j2, hrj⟩ : ∃ j1 j2, medianAdjacent ltInt d (a + q * 2) i2 = (j1, j2) := ⟨_, _, rfl⟩
    obtain ⟨k1, k2, hrk⟩ : ∃ k1 k2, medianAdjacent ltInt d (a + q * 3) j2 = (k1, k2) := ⟨_, _, rfl⟩
    obtain ⟨r1, r2, hr⟩ : ∃ r1 r2, median ltInt d i1 j1 k1 k2 = (r1, r2) := ⟨_, _, rfl⟩
    simp only [hri, hrj, hrk, hr]
    have b1 := medianAdj_in (d := d) (a := a + q * 1) (s := 0) (n := d.size) (by omega) (by omega) (by omega)
    rw [hri] at b1
    simp only at b1
    have b2 := medianAdj_in (d := d) (a := a + q * 2) (s := i2) (n := d.size) (by omega) (by omega) (by omega)
    rw [hrj] at b2
    simp only at b2
    have b3 := medianAdj_in (d := d) (a := a + q * 3) (s := j2) (n := d.size) (by omega) (by omega) (by omega)
    rw [hrk] at b3
    simp only at b3
    have H1 : Hid (Calls Yba.prog 83 #[.slice (some ⟨blk, off, none⟩) d.size cap, .int .i64 ((a : Int) + (q : Int)), .pointer (some ⟨w.heap.size, 0, none⟩)] (w.alloc (.cells #[.int .i64 0] 3)) fun e w' => e = .returned (.int .i64 i1) ∧ Sc w0 w' blk off d w.heap.size i2) := by
      have := medianAdj_u blk off cap (a + q * 1) w.heap.size 0 d w0 _ HA.out hsz0 hne (by omega) (by omega) (by omega) hsz
      rw [hri] at this
      have e : ((a + q * 1 : Nat) : Int) = (a : Int) + (q : Int) := by omega
      rw [e] at this
      exact this
    have H2 : Hid (∀ wz, Sc w0 wz blk off d w.heap.size i2 → Calls Yba.prog 83 #[.slice (some ⟨blk, off, none⟩) d.size cap, .int .i64 ((a : Int) + (q : Int) * 2), .pointer (some ⟨w.heap.size, 0, none⟩)] wz fun e w' => e = .returned (.int .i64 j1) ∧ Sc w0 w' blk off d w.heap.size j2) := fun wz h => by
      have := medianAdj_u blk off cap (a + q * 2) w.heap.size i2 d w0 wz h hsz0 hne (by omega) (by omega) (by omega) hsz
      rw [hrj] at this
      have e : ((a + q * 2 : Nat) : Int) = (a : Int) + (q : Int) * 2 := by omega
      rw [e] at this
      exact this
    have H3 : Hid (∀ wz, Sc w0 wz blk off d w.heap.size j2 → Calls Yba.prog 83 #[.slice (some ⟨blk, off, none⟩) d.size cap, .int .i64 ((a : Int) + (q : Int) * 3), .pointer (some ⟨w.heap.size, 0, none⟩)] wz fun e w' => e = .returned (.int .i64 k1) ∧ Sc w0 w' blk off d w.heap.size k2) := fun wz h => by
      have := medianAdj_u blk off cap (a + q * 3) w.heap.size j2 d w0 wz h hsz0 hne (by omega) (by omega) (by omega) hsz
      rw [hrk] at this
      have e : ((a + q * 3 : Nat) : Int) = (a : Int) + (q : Int) * 3 := by omega
      rw [e] at this
      exact this
    have H4 : Hid (∀ wz, Sc w0 wz blk off d w.heap.size k2 → Calls Yba.prog 84 #[.slice (some ⟨blk, off, none⟩) d.size cap, .int .i64 i1, .int .i64 j1, .int .i64 k1, .pointer (some ⟨w.heap.size, 0, none⟩)] wz fun e w' => e = .returned (.int .i64 r1) ∧ Sc w0 w' blk off d w.heap.size r2) := fun wz h => by
      have := median_u blk off cap i1 j1 k1 w.heap.size k2 d w0 wz h hsz0 hne b1.1 b2.1 b3.1 (by omega) hsz
      rw [hr] at this
      exact this
    have hLq : (L : Int) / 4 = (q : Int) := by omega
    clear hS HA hri hrj hrk hr b1 b2 b3 hqd hq
    generalize d.size = n at *
    have h50I : 50 ≤ (L : Int) := by omega
    have hsub : (a : Int) + (L : Int) - (a : Int) = (L : Int) := by omega
    go_enter Yba.func49, Yba.ntmps49
    go_upto_region 9 with (go_at_call 83; refine Calls.mono H1.out ?_; rintro e w1 ⟨rfl, h1⟩; have HS1 : Hid _ := h1; clear h1)
    go_upto_region 10 with (go_at_call 83; refine Calls.mono (H2.out _ HS1.out) ?_; rintro e w2 ⟨rfl, h1⟩; have HS2 : Hid _ := h1; clear h1)
    go_upto_region 11 with (go_at_call 83; refine Calls.mono (H3.out _ HS2.out) ?_; rintro e w3 ⟨rfl, h1⟩; have HS3 : Hid _ := h1; clear h1)
    go_upto_region 12 with (go_at_call 84; refine Calls.mono (H4.out _ HS3.out) ?_; rintro e w4 ⟨rfl, h1⟩; have HS4 : Hid (Sc w0 w4 blk off d w.heap.size r2) := h1; clear h1)
    have cs := HS4.out.cs
    by_cases h0 : r2 = 0
    · subst h0
      go_wp2_with fail
      go_ret2
      exact ⟨rfl, HS4.out.sw⟩
    · have hz0 : ¬ (r2 : Int) = 0 := by omega
      have hb0 : ((r2 : Int) == 0) = false := by simp; omega
      by_cases h12 : r2 = 12
      · subst h12
        go_wp2_with fail
        go_ret2
        exact ⟨rfl, HS4.out.sw⟩
      · have hz12 : ¬ (r2 : Int) = 12 := by omega
        have hb12 : ((r2 : Int) == 12) = false := by simp; omega
        have Hh : Hid (hintOf r2 = .unknown) := by show (if _ then _ else if _ then _ else _) = _; rw [if_neg h0, if_neg h12]
        go_wp2_with fail
        go_ret2
        exact ⟨by rw [Hh.out]; rfl, HS4.out.sw⟩
  · rw [if_neg h50]
    obtain ⟨r1, r2, hr⟩ : ∃ r1 r2, median ltInt d (a + q * 1) (a + q * 2) (a + q * 3) 0 = (r1, r2) := ⟨_, _, rfl⟩
    simp only [hr]
    have H1 : Hid (Calls Yba.prog 84 #[.slice (some ⟨blk, off, none⟩) d.size cap, .int .i64 ((a : Int) + (q : Int)), .int .i64 ((a : Int) + (q : Int) * 2), .int .i64 ((a : Int) + (q : Int) * 3), .pointer (some ⟨w.heap.size, 0, none⟩)] (w.alloc (.cells #[.int .i64 0] 3)) fun e w' => e = .returned (.int .i64 r1) ∧ Sc w0 w' blk off d w.heap.size r2) := by
      have := median_u blk off cap (a + q * 1) (a + q * 2) (a + q * 3) w.heap.size 0 d w0 _ HA.out hsz0 hne (by omega) (by omega) (by omega) (by omega) hsz
      rw [hr] at this
      have e1 : ((a + q * 1 : Nat) : Int) = (a : Int) + (q : Int) := by omega
      have e2 : ((a + q * 2 : Nat) : Int) = (a : Int) + (q : Int) * 2 := by omega
      have e3 : ((a + q * 3 : Nat) : Int) = (a : Int) + (q : Int) * 3 := by omega
      rw [e1, e2, e3] at this
      exact this
    have hLq : (L : Int) / 4 = (q : Int) := by omega
    clear hS HA hr hqd hq
    generalize d.size = n at *
    have h8I : 8 ≤ (L : Int) := by omega
    have h50I : decide (50 ≤ (L : Int)) = false := by simp; omega
    have hsub : (a : Int) + (L : Int) - (a : Int) = (L : Int) := by omega
    go_enter Yba.func49, Yba.ntmps49
    go_upto_region 12 with (go_at_call 84; refine Calls.mono H1.out ?_; rintro e w4 ⟨rfl, h1⟩; have HS4 : Hid (Sc w0 w4 blk off d w.heap.size r2) := h1; clear h1)
    have cs := HS4.out.cs
    by_cases h0 : r2 = 0
    · subst h0
      go_wp2_with fail
      go_ret2
      exact ⟨rfl, HS4.out.sw⟩
    · have hz0 : ¬ (r2 : Int) = 0 := by omega
      have hb0 : ((r2 : Int) == 0) = false := by simp; omega
      by_cases h12 : r2 = 12
      · subst h12
        go_wp2_with fail
        go_ret2
        exact ⟨rfl, HS4.out.sw⟩
      · have hz12 : ¬ (r2 : Int) = 12 := by omega
        have hb12 : ((r2 : Int) == 12) = false := by simp; omega
        have Hh : Hid (hintOf r2 = .unknown) := by show (if _ then _ else if _ then _ else _) = _; rw [if_neg h0, if_neg h12]
        go_wp2_with fail
        go_ret2
        exact ⟨by rw [Hh.out]; rfl, HS4.out.sw⟩
end Go.Proofs.Ybulkdbmw

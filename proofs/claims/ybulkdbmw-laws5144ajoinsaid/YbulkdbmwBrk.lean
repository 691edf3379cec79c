import Derived.Test.YbulkdbmwXor
namespace Go.Proofs.Ybulkdbmw
open Go Go.RowKit Go.Sort

/-- The random number, in a block of its own. -/
structure Sx (w0 w : World) (blk off : Nat) (d : Array Int) (sb s : Nat) : Prop where
  sw : Sw w0 w blk off d
  cs : w.cell? ⟨sb, 0, none⟩ = some (.int .u64 s)
  fs : w.frozen? ⟨sb, 0, none⟩ = false

theorem Sx.dN {w0 w : World} {blk off sb s : Nat} {d : Array Int} (h : Sx w0 w blk off d sb s) (n : Nat) : Sx w0 (w.drewN n) blk off d sb s := ⟨h.sw.dN n, h.cs, h.fs⟩

theorem Sx.set {w0 w : World} {blk off sb s : Nat} {d : Array Int} (h : Sx w0 w blk off d sb s) (hn : w0.heap.size ≤ sb) (hb : sb ≠ blk) (s' : Nat) : Sx w0 (w.setCell ⟨sb, 0, none⟩ (.int .u64 s')) blk off d sb s' := by
  refine ⟨⟨fun j hj => ?_, fun j => by rw [World.frozen?_setCell]; exact h.sw.fz j, ?_⟩, World.cell?_setCell_same _ _ _ h.cs, by rw [World.frozen?_setCell]; exact h.fs⟩
  · rw [World.cell?_setCell_other _ _ _ _ (fun e => hb (by injection e))]
    exact h.sw.hd j hj
  · have g := set_grown w sb 0 (.int .u64 s')
    exact ⟨g.os.trans h.sw.gr.os, g.tape.trans h.sw.gr.tape, g.output.trans h.sw.gr.output, Nat.le_trans h.sw.gr.size g.size, fun i hi hne => (g.block i (Nat.lt_of_lt_of_le hi h.sw.gr.size) (fun e => by injection e with e; omega)).trans (h.sw.gr.block i hi hne)⟩

theorem Sx.swp {w0 w : World} {blk off i j sb s : Nat} {d : Array Int} (h : Sx w0 w blk off d sb s) (hb : sb ≠ blk) (hi : i < d.size) (hj : j < d.size) :
    Sx w0 ((w.setCell ⟨blk, off + i, none⟩ (encU d[j]!)).setCell ⟨blk, off + j, none⟩ (encU d[i]!)) blk off (Sort.swp d i j) sb s := by
  refine ⟨h.sw.swp hi hj, ?_, ?_⟩
  · rw [World.cell?_setCell_other _ _ _ _ (fun e => hb (by injection e with e; exact e.symm)), World.cell?_setCell_other _ _ _ _ (fun e => hb (by injection e with e; exact e.symm))]
    exact h.cs
  · rw [World.frozen?_setCell, World.frozen?_setCell]; exact h.fs

set_option maxHeartbeats 1000000 in
set_option maxRecDepth 100000 in
theorem brk_go (blk off cap a L : Nat) (d : Array Int) (w0 w : World) (hS : Sw w0 w blk off d) (hblk : blk < w.heap.size) (hb : a + L ≤ d.size) (hsz : d.size < 1000000) (h8 : 8 ≤ L) :
    Calls Yba.prog 48 #[.slice (some ⟨blk, off, none⟩) d.size cap, .int .i64 a, .int .i64 ((a + L : Nat) : Int)] w fun e w' =>
      e = .returned (.tuple #[]) ∧ Sw w0 w' blk off (breakPatterns d a (a + L)) := by
  rw [breakPatterns_eq d a L h8]
  obtain ⟨M, hM⟩ : ∃ M : Nat, M = 1 <<< bitsLen L := ⟨_, rfl⟩
  have hM1 : 1 ≤ M := by rw [hM, Nat.one_shiftLeft]; exact Nat.two_pow_pos _
  have hM2 : M ≤ 2 * L := by rw [hM, Nat.one_shiftLeft]; exact two_pow_bitsLen_le (by omega)
  have hNP : ∀ w, Calls Yba.prog 81 #[.int .i64 (L : Int)] w fun e w' => e = .returned (.int .u64 (M : Int)) ∧ w' = w := by rw [hM]; exact fun w => nextPow_u L (by omega) w
  rw [← hM]
  clear hM
  have hsb : w.heap.size ≠ blk := by omega
  have hsn : w0.heap.size ≤ w.heap.size := hS.gr.size
  have HSB : Hid (w.heap.size ≠ blk ∧ w0.heap.size ≤ w.heap.size) := ⟨hsb, hsn⟩
  have HST : Hid (∀ T, Sx w0 (w.alloc (Obj.cells #[.int .u64 (L : Int)] T)) blk off d w.heap.size (UInt64.ofNat L).toNat) := fun T => by
    refine ⟨⟨fun j hj => ?_, fun j => ?_, ?_⟩, ?_, ?_⟩
    · have e : (w.alloc (.cells #[.int .u64 (L : Int)] T)).heap[blk]? = w.heap[blk]? := (World.grownBy_alloc w _ none).block blk hblk (by simp)
      have := hS.hd j hj; unfold World.cell? at this ⊢; rw [e]; exact this
    · have e : (w.alloc (.cells #[.int .u64 (L : Int)] T)).heap[blk]? = w.heap[blk]? := (World.grownBy_alloc w _ none).block blk hblk (by simp)
      have := hS.fz j; unfold World.frozen? at this ⊢; rw [e]; exact this
    · exact gtr hS.gr (World.grownBy_alloc w _ (some blk))
    · rw [World.cell?_alloc_at _ _ _ _ rfl, show (UInt64.ofNat L).toNat = L from by simp; omega]; rfl
    · rw [World.frozen?_alloc_at _ _ _ _ rfl]
  clear hS
  go_enter Yba.func48, Yba.ntmps48
  go_wp2_with (first | (go_at_call 81; rw [show ((a : Int) + (L : Int) - (a : Int)) = (L : Int) by omega]; refine (hNP _).mono ?_; rintro e w' ⟨rfl, rfl⟩))
  go_loopw [9] (fun vi wr => ∃ (t : Nat) (r : UInt64) (dk : Array Int), vi = .int .i64 ((a + L / 4 * 2 - 1 + t : Nat) : Int) ∧ t ≤ 3 ∧ dk.size = d.size ∧
      Sx w0 wr blk off dk w.heap.size r.toNat ∧
      bpRest a L M (a + L / 4 * 2 - 1) (3 - t) t (r, dk) = bpRest a L M (a + L / 4 * 2 - 1) 3 0 (UInt64.ofNat L, d)) (fun vi _ => a + L / 4 * 2 + 3 - (intOf vi).toNat)
  case atStart => exact ⟨0, UInt64.ofNat L, d, by congr 1; omega, by omega, rfl, HST.out _, rfl⟩
  case round =>
    obtain ⟨t, r, dk, rfl, ht, hsk, hw, hR⟩ := hrel
    obtain ⟨R, hRr⟩ : ∃ R : Nat, R = r.toNat := ⟨_, rfl⟩
    have lR : R < 18446744073709551616 := by rw [hRr]; exact r.toNat_lt
    obtain ⟨R', hR'⟩ : ∃ R' : Nat, R' = xorNextN R := ⟨_, rfl⟩
    have lR' : R' < 18446744073709551616 := by rw [hR']; exact xorNextN_lt R lR
    obtain ⟨O, hO⟩ : ∃ O : Nat, O = R' &&& (M - 1) := ⟨_, rfl⟩
    have lO : O ≤ M - 1 := by rw [hO]; exact Nat.and_le_right
    have eAnd : bits .and .u64 (R' : Int) ((M : Int) - 1) = (O : Int) := by
      rw [show ((M : Int) - 1) = ((M - 1 : Nat) : Int) by omega, bits_and_u64_nat _ _ lR' (by omega), hO]
    have hNext : Calls Yba.prog 82 #[.pointer (some ⟨w.heap.size, 0, none⟩)] wr fun e w' => e = .returned (.int .u64 (R' : Int)) ∧ Sx w0 w' blk off dk w.heap.size R' := by
      rw [hR']
      refine (xor_u _ _ R lR wr (by rw [hRr]; exact hw.cs) hw.fs).mono ?_
      rintro e w' ⟨rfl, rfl⟩
      exact ⟨rfl, (hw.set HSB.out.2 HSB.out.1 _).dN 3⟩
    have HR : Hid (bpRest a L M (a + L / 4 * 2 - 1) (3 - t) t (r, dk) = bpRest a L M (a + L / 4 * 2 - 1) 3 0 (UInt64.ofNat L, d)) := hR
    have HN : Hid (R' = (xorNext r).toNat ∧ O = (xorNext r).toNat &&& (M - 1)) := by
      have e : R' = (xorNext r).toNat := by rw [hR', hRr, xorNext_toNat]
      exact ⟨e, by rw [hO, e]⟩
    have HW : Hid (Sx w0 wr blk off dk w.heap.size r.toNat) := hw
    clear hR hRr hR' hO hw
    go_wp2_with (first | (go_at_call 82; refine hNext.mono ?_; rintro e w' ⟨rfl, hx⟩; have HX : Hid _ := hx; clear hx))
    · have hLO : L ≤ O := by omega
      have hI : a + L / 4 * 2 - 1 + t < dk.size := by omega
      have hJ : a + (O - L) < dk.size := by omega
      have c1 := HX.out.sw.hd _ hI
      have c2 := HX.out.sw.hd _ hJ
      have f1 := HX.out.sw.fz
      obtain ⟨v', c3⟩ := cell_set_some (i := off + (a + L / 4 * 2 - 1 + t)) (encU dk[a + (O - L)]!) c2
      have HQ : Hid _ := (HX.out.swp HSB.out.1 hI hJ)
      generalize dk[a + L / 4 * 2 - 1 + t]! = x1 at *
      generalize dk[a + (O - L)]! = x2 at *
      go_region
      all_goals go_wp2
      go_roundw
      case rel =>
        refine ⟨t + 1, xorNext r, Sort.swp dk (a + L / 4 * 2 - 1 + t) (a + (O - L)), by first | rfl | (congr 1 <;> omega), by omega, by rw [swp_size]; exact hsk, ?_, ?_⟩
        · have := HQ.out.dN 1
          rw [HN.out.1] at this
          exact this
        · rw [← HR.out, bp_step a L M _ t r dk (O - L) (by omega) (by rw [← HN.out.2, if_pos (by omega)])]
      case measure => simp [intOf]; omega
    · have hLO : ¬ L ≤ O := by omega
      have hI : a + L / 4 * 2 - 1 + t < dk.size := by omega
      have hJ : a + O < dk.size := by omega
      have c1 := HX.out.sw.hd _ hI
      have c2 := HX.out.sw.hd _ hJ
      have f1 := HX.out.sw.fz
      obtain ⟨v', c3⟩ := cell_set_some (i := off + (a + L / 4 * 2 - 1 + t)) (encU dk[a + O]!) c2
      have HQ : Hid _ := (HX.out.swp HSB.out.1 hI hJ)
      generalize dk[a + L / 4 * 2 - 1 + t]! = x1 at *
      generalize dk[a + O]! = x2 at *
      go_region
      all_goals go_wp2
      go_roundw
      case rel =>
        refine ⟨t + 1, xorNext r, Sort.swp dk (a + L / 4 * 2 - 1 + t) (a + O), by first | rfl | (congr 1 <;> omega), by omega, by rw [swp_size]; exact hsk, ?_, ?_⟩
        · have := HQ.out.dN 1
          rw [HN.out.1] at this
          exact this
        · rw [← HR.out, bp_step a L M _ t r dk O (by omega) (by rw [← HN.out.2, if_neg (by omega)])]
      case measure => simp [intOf]; omega
    · obtain rfl : t = 3 := by omega
      go_end0
      exact ⟨rfl, by rw [← HR.out]; exact HW.out.sw⟩
end Go.Proofs.Ybulkdbmw

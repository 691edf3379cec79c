import Derived.Test.YbulkdbmwIns
namespace Go.Proofs.Ybulkdbmw
open Go Go.RowKit Go.Sort

/-- The child that siftDown looks at. -/
def chld (hi first r : Nat) (d : Array Int) : Nat := if 2 * r + 1 + 1 < hi ∧ ltInt d[first + (2 * r + 1)]! d[first + (2 * r + 1) + 1]! = true then 2 * r + 2 else 2 * r + 1

theorem sift_end {hi first r : Nat} {d : Array Int} (h : hi ≤ 2 * r + 1) : siftDown ltInt hi first r d = d := by
  rw [siftDown, dif_pos h]
theorem sift_step {hi first r : Nat} {d : Array Int} (h : ¬ hi ≤ 2 * r + 1) : siftDown ltInt hi first r d = if ltInt d[first + r]! d[first + chld hi first r d]! = true then siftDown ltInt hi first (chld hi first r d) (swp d (first + r) (first + chld hi first r d)) else d := by
  rw [siftDown, dif_neg h]
  by_cases h1 : 2 * r + 1 + 1 < hi
  · by_cases h2 : ltInt d[first + (2 * r + 1)]! d[first + (2 * r + 1) + 1]! = true
    · have hc : chld hi first r d = 2 * r + 2 := if_pos ⟨h1, h2⟩
      rw [hc]
      have e : (decide (2 * r + 1 + 1 < hi) && ltInt d[first + (2 * r + 1)]! d[first + (2 * r + 1) + 1]!) = true := by simp [h1, h2]
      rw [if_pos e]
      by_cases h3 : ltInt d[first + r]! d[first + (2 * r + 2)]! = true
      · rw [if_neg (by simp [h3]), dif_pos (by omega), if_pos h3]
      · rw [if_pos (by simpa using h3), if_neg h3]
    · have hc : chld hi first r d = 2 * r + 1 := if_neg (fun h => h2 h.2)
      rw [hc]
      have e : ¬ (decide (2 * r + 1 + 1 < hi) && ltInt d[first + (2 * r + 1)]! d[first + (2 * r + 1) + 1]!) = true := by simp [h2]
      rw [if_neg e]
      by_cases h3 : ltInt d[first + r]! d[first + (2 * r + 1)]! = true
      · rw [if_neg (by simp [h3]), if_pos h3]
      · rw [if_pos (by simpa using h3), if_neg h3]
  · have hc : chld hi first r d = 2 * r + 1 := if_neg (fun h => h1 h.1)
    rw [hc]
    have e : ¬ (decide (2 * r + 1 + 1 < hi) && ltInt d[first + (2 * r + 1)]! d[first + (2 * r + 1) + 1]!) = true := by simp [h1]
    rw [if_neg e]
    by_cases h3 : ltInt d[first + r]! d[first + (2 * r + 1)]! = true
    · rw [if_neg (by simp [h3]), if_pos h3]
    · rw [if_pos (by simpa using h3), if_neg h3]

set_option maxHeartbeats 3200000 in
set_option maxRecDepth 100000 in
theorem sift_u (blk off cap lo hi first : Nat) (d : Array Int) (w0 w : World) (hS : Sw w0 w blk off d) (hlo : lo ≤ hi) (hb : first + hi ≤ d.size) (hsz : d.size < 1000000) :
    Calls Yba.prog 80 #[.slice (some ⟨blk, off, none⟩) d.size cap, .int .i64 lo, .int .i64 hi, .int .i64 first] w fun e w' => e = .returned (.tuple #[]) ∧ Sw w0 w' blk off (siftDown ltInt hi first lo d) := by
  have HS : Hid (Sw w0 w blk off d) := hS
  clear hS
  generalize hn : d.size = n at *
  go_enter Yba.func80, Yba.ntmps80
  go_wp2
  go_loopw [8, 9] (fun s8 _ wr => ∃ (r : Nat) (dk : Array Int), s8 = .int .i64 r ∧ r ≤ hi ∧ dk.size = n ∧ Sw w0 wr blk off dk ∧ siftDown ltInt hi first r dk = siftDown ltInt hi first lo d) (fun s8 _ _ => (hi - intOf s8).toNat)
  case atStart => exact ⟨lo, d, rfl, hlo, hn, HS.out, rfl⟩
  case round =>
    obtain ⟨r, dk, rfl, h1, hds, hS, heq⟩ := hrel
    have HSk : Hid (Sw w0 wr blk off dk) := hS
    have Hds : Hid (dk.size = n) := hds
    by_cases hend : hi ≤ 2 * r + 1
    · have hI : decide ((hi : Int) ≤ 2 * (r : Int) + 1) = true := by simp; omega
      have Hq : Hid (dk = siftDown ltInt hi first lo d) := by show _ = _; rw [← heq, sift_end hend]
      clear hS heq HS hn hds
      go_wp2_with fail
      go_end0
      exact ⟨rfl, by rw [← Hq.out]; exact HSk.out⟩
    · have hst := sift_step (first := first) (d := dk) hend
      rw [heq] at hst
      have Hst : Hid _ := hst
      obtain ⟨c1, hc1⟩ : ∃ c1 : Nat, c1 = 2 * r + 1 := ⟨_, rfl⟩
      obtain ⟨bg, hbg⟩ : ∃ bg : Bool, bg = (decide (c1 + 1 < hi) && ltInt dk[first + c1]! dk[first + (c1 + 1)]!) := ⟨_, rfl⟩
      have hc : chld hi first r dk = if bg = true then c1 + 1 else c1 := by
        unfold chld
        rw [hbg, hc1]
        by_cases h2 : 2 * r + 1 + 1 < hi
        · simp [h2, Nat.add_assoc]
        · simp [h2]
      have hcb : chld hi first r dk < hi ∧ r < chld hi first r dk := by
        rw [hc]
        by_cases hb2 : bg = true
        · rw [if_pos hb2]
          have : c1 + 1 < hi := by rw [hb2] at hbg; simp at hbg; exact hbg.1
          omega
        · rw [if_neg hb2]; omega
      have Hc : Hid _ := hc
      have k1 := hS.hd (first + c1) (by omega)
      have fz := hS.fz
      have HLs : Hid (∀ (x y : Int) (wz : World), Calls Yba.prog 52 #[.int .u32 x, .int .u32 y] wz fun e w' => e = .returned (.bool (ltInt x y)) ∧ w' = wz) := fun x y wz => less_u x y wz
      have Hk2 : Hid (c1 + 1 < hi → wr.cell? ⟨blk, off + (first + (c1 + 1)), none⟩ = some (encU dk[first + (c1 + 1)]!)) := fun h => hS.hd _ (by omega)
      have HcI : Hid (2 * (r : Int) + 1 = (c1 : Int)) := by show _ = _; omega
      have hI : decide ((hi : Int) ≤ (c1 : Int)) = false := by simp; omega
      have hc1b : c1 < hi := by omega
      have hc1I : (first : Int) + (c1 : Int) < (n : Int) := by omega
      have hc1b2 : r < c1 := by omega
      clear hS heq HS hn hds hst hc hc1
      generalize chld hi first r dk = ch at *
      go_upto_region 2 with fail
      rw [HcI.out]
      go_upto_region 3 with fail
      go_cut [36] (fun s36 wx => s36 = .bool bg ∧ ∃ nq, wx = wr.drewN nq)
      case first =>
        clear Hst Hc
        by_cases h2 : c1 + 1 < hi
        · have k2 := Hk2.out h2
          have h2I : (c1 : Int) + 1 < (hi : Int) := by omega
          have hbI : (first : Int) + (c1 : Int) + 1 < (n : Int) := by omega
          have hbx : bg = ltInt dk[first + c1]! dk[first + (c1 + 1)]! := by rw [hbg]; simp [h2]
          have HLs1 : Hid _ := HLs.out dk[first + c1]! dk[first + (c1 + 1)]!
          rw [← hbx] at HLs1
          have k2' : wr.cell? ⟨blk, off + (first + c1 + 1), none⟩ = some (encU dk[first + (c1 + 1)]!) := k2
          clear hbg hbx k2
          generalize dk[first + c1]! = x at *
          generalize dk[first + (c1 + 1)]! = y at *
          go_quiet ((go_at_call 52; exact Calls.quiet_of_same (HLs1.out _)))
          rename_i nq
          go_wp2_with fail
          go_meet
          exact ⟨rfl, nq, rfl⟩
        · have h2I : decide ((c1 : Int) + 1 < (hi : Int)) = false := by simp; omega
          have hbx : bg = false := by rw [hbg]; simp [h2]
          clear hbg
          go_quiet (fail)
          rename_i nq
          go_wp2_with fail
          go_meet
          exact ⟨by rw [hbx], nq, rfl⟩
      case rest =>
        obtain ⟨rfl, nq0, rfl⟩ := hcut
        have HS1 : Hid (Sw w0 (wr.drewN nq0) blk off dk) := HSk.out.dN nq0
        clear HSk k1 Hk2 fz hbg
        generalize wr.drewN nq0 = wz at *
        go_upto_if 36 with fail
        go_cut [9] (fun s9 wx => s9 = .int .i64 ch ∧ wx = wz)
        case first =>
          cases bg with
          | true =>
            have hce : ch = c1 + 1 := Hc.out
            clear Hc Hst
            go_wp2_with fail
            go_meet
            exact ⟨by rw [hce]; go_num, rfl⟩
          | false =>
            have hce : ch = c1 := Hc.out
            clear Hc Hst
            go_wp2_with fail
            go_meet
            exact ⟨by rw [hce], rfl⟩
        case rest =>
          obtain ⟨rfl, hwc⟩ := hcut
          subst hwc
          clear Hc
          have k1 := HS1.out.hd (first + r) (by rw [Hds.out]; omega)
          have k2 := HS1.out.hd (first + ch) (by rw [Hds.out]; omega)
          have fz := HS1.out.fz
          have Hsw : Hid _ := HS1.out.swp (i := first + r) (j := first + ch) (by rw [Hds.out]; omega) (by rw [Hds.out]; omega)
          have b1 : (first : Int) + (r : Int) < (n : Int) := by omega
          have b2 : (first : Int) + (ch : Int) < (n : Int) := by omega
          have HLs1 : Hid _ := HLs.out dk[first + r]! dk[first + ch]!
          generalize dk[first + r]! = x at *
          generalize dk[first + ch]! = y at *
          by_cases hl : ltInt x y = true
          · rw [hl] at HLs1
            have hq := Hst.out
            rw [if_pos hl] at hq
            have Hq : Hid _ := hq
            clear hq Hst
            go_wp2_with fail
            go_quiet ((go_at_call 52; exact Calls.quiet_of_same (HLs1.out _)))
            rename_i nq
            go_wp2_with fail
            go_region
            go_wp2
            go_roundw
            case rel => exact ⟨ch, _, rfl, by omega, by rw [swp_size]; exact Hds.out, Hsw.out.same rfl rfl rfl rfl, Hq.out.symm⟩
            case measure => simp [intOf]; omega
          · have hlf : ltInt x y = false := by simpa using hl
            rw [hlf] at HLs1
            have hq := Hst.out
            rw [if_neg hl] at hq
            have Hq : Hid _ := hq
            clear hq Hst
            go_wp2_with fail
            go_quiet ((go_at_call 52; exact Calls.quiet_of_same (HLs1.out _)))
            rename_i nq
            go_wp2_with fail
            refine bodyPost_ret (results_none rfl _ _ _) rfl ?_
            exact ⟨rfl, by rw [Hq.out]; exact HS1.out.same rfl rfl rfl rfl⟩

theorem sift_size (hi first : Nat) : ∀ (k r : Nat) (d : Array Int), hi - r ≤ k → (siftDown ltInt hi first r d).size = d.size
  | 0, r, d, h => by rw [sift_end (by omega)]
  | k + 1, r, d, h => by
    by_cases he : hi ≤ 2 * r + 1
    · rw [sift_end he]
    · rw [sift_step he]
      split
      · rw [sift_size hi first k _ _ (by unfold chld; split <;> omega), swp_size]
      · rfl

set_option maxHeartbeats 3200000 in
set_option maxRecDepth 100000 in
theorem heap_u (blk off cap a L : Nat) (d : Array Int) (w0 w : World) (hS : Sw w0 w blk off d) (hL : 1 ≤ L) (hb : a + L ≤ d.size) (hsz : d.size < 1000000) :
    Calls Yba.prog 47 #[.slice (some ⟨blk, off, none⟩) d.size cap, .int .i64 a, .int .i64 ((a : Int) + (L : Int))] w fun e w' => e = .returned (.tuple #[]) ∧ Sw w0 w' blk off (heapSort ltInt d a (a + L)) := by
  have HS : Hid (Sw w0 w blk off d) := hS
  have Hh : Hid (heapSort ltInt d a (a + L) = heapPop ltInt a L (heapBuild ltInt L a ((L - 1) / 2 + 1) d)) := by show _ = _; unfold heapSort; rw [Nat.add_sub_cancel_left]
  have HSf : Hid (∀ (lo hi : Nat) (dk : Array Int) (wz : World), dk.size = d.size → Sw w0 wz blk off dk → lo ≤ hi → a + hi ≤ d.size → Calls Yba.prog 80 #[.slice (some ⟨blk, off, none⟩) d.size cap, .int .i64 lo, .int .i64 hi, .int .i64 a] wz fun e w' => e = .returned (.tuple #[]) ∧ Sw w0 w' blk off (siftDown ltInt hi a lo dk)) := fun lo hi dk wz h1 h2 h3 h4 => by
    have := sift_u blk off cap lo hi a dk w0 wz h2 h3 (by omega) (by omega)
    rw [h1] at this
    exact this
  clear hS
  generalize hn : d.size = n at *
  have hsub : (a : Int) + (L : Int) - (a : Int) = (L : Int) := by omega
  obtain ⟨k0, hk0⟩ : ∃ k0 : Nat, k0 = (L - 1) / 2 := ⟨_, rfl⟩
  rw [← hk0] at Hh
  have hq : ((L : Int) - 1) / 2 = (k0 : Int) := by omega
  have hk0L : k0 < L := by omega
  have Hh2 : Hid _ := Hh
  have HqI : Hid (((L : Int) - 1) / 2 = (k0 : Int)) := hq
  clear hk0 Hh hq
  go_enter Yba.func47, Yba.ntmps47
  go_wp2_with fail
  clear hsub
  go_loopw [9] (fun s9 wr => ∃ (k : Nat) (z : Int) (dk : Array Int), s9 = .int .i64 z ∧ z = (k : Int) - 1 ∧ k ≤ k0 + 1 ∧ dk.size = n ∧ Sw w0 wr blk off dk ∧ heapBuild ltInt L a k dk = heapBuild ltInt L a (k0 + 1) d) (fun s9 _ => (intOf s9 + 1).toNat)
  case atStart => exact ⟨k0 + 1, _, d, rfl, by have := HqI.out; omega, Nat.le_refl _, hn, HS.out, rfl⟩
  case round =>
    obtain ⟨k, z, dk, rfl, hz, h1, hds, hS, heq⟩ := hrel
    cases k with
    | succ k =>
      obtain rfl : z = (k : Int) := by omega
      clear hz
      have HSk : Hid _ := HSf.out k L dk wr hds hS (by omega) (by omega)
      have Hq : Hid (heapBuild ltInt L a k (siftDown ltInt L a k dk) = heapBuild ltInt L a (k0 + 1) d) := heq
      have Hsz : Hid ((siftDown ltInt L a k dk).size = n) := (sift_size L a _ k dk (Nat.le_refl _)).trans hds
      clear hS heq hds hn
      generalize siftDown ltInt L a k dk = d2 at *
      go_wp2_with (go_at_call 80; refine Calls.mono HSk.out ?_; rintro e w2 ⟨rfl, hS2⟩; have HS2 : Hid _ := hS2; clear hS2)
      go_roundw
      case rel => exact ⟨k, (k : Int) - 1, d2, rfl, rfl, by omega, Hsz.out, HS2.out, Hq.out⟩
      case measure => simp [intOf]
    | zero =>
      obtain rfl : z = -1 := by omega
      clear hz
      have Hq : Hid (dk = heapBuild ltInt L a (k0 + 1) d) := heq
      have HSk : Hid (Sw w0 wr blk off dk) := hS
      have Hds : Hid (dk.size = n) := hds
      clear hS heq hds hn
      go_wp2_with fail
      go_loopw [10] (fun s10 wr => ∃ (k : Nat) (z : Int) (dj : Array Int), s10 = .int .i64 z ∧ z = (k : Int) - 1 ∧ k ≤ L ∧ dj.size = n ∧ Sw w0 wr blk off dj ∧ heapPop ltInt a k dj = heapPop ltInt a L dk) (fun s10 _ => (intOf s10 + 1).toNat)
      case atStart => exact ⟨L, (L : Int) - 1, dk, rfl, rfl, Nat.le_refl _, Hds.out, HSk.out, rfl⟩
      case round =>
        obtain ⟨k, z, dj, rfl, hz, g1, gds, hSj, hej⟩ := hrel
        cases k with
        | succ k =>
          obtain rfl : z = (k : Int) := by omega
          clear hz
          have c1 := hSj.hd a (by omega)
          have c2 := hSj.hd (a + k) (by omega)
          have fz := hSj.fz
          have Hsw := hSj.swp (i := a) (j := a + k) (by omega) (by omega)
          have HSj : Hid (∀ wz : World, wz.heap = ((wr.setCell ⟨blk, off + a, none⟩ (encU dj[a + k]!)).setCell ⟨blk, off + (a + k), none⟩ (encU dj[a]!)).heap → wz.os = wr.os → wz.tape = wr.tape → wz.output = wr.output → Calls Yba.prog 80 #[.slice (some ⟨blk, off, none⟩) n cap, .int .i64 0, .int .i64 k, .int .i64 a] wz fun e w' => e = .returned (.tuple #[]) ∧ Sw w0 w' blk off (siftDown ltInt k a 0 (swp dj a (a + k)))) := fun wz e1 e2 e3 e4 => HSf.out 0 k _ wz (by rw [swp_size]; exact gds) (Hsw.same e1 e2 e3 e4) (Nat.zero_le _) (by omega)
          have Hej : Hid (heapPop ltInt a k (siftDown ltInt k a 0 (swp dj a (a + k))) = heapPop ltInt a L dk) := hej
          have Hsz : Hid ((siftDown ltInt k a 0 (swp dj a (a + k))).size = n) := (sift_size k a _ 0 _ (Nat.le_refl _)).trans ((swp_size _ _ _).trans gds)
          clear hSj hej gds Hsw HSk
          generalize siftDown ltInt k a 0 (swp dj a (a + k)) = d2 at *
          generalize dj[a]! = x at *
          generalize dj[a + k]! = y at *
          have b1 : (a : Int) + (k : Int) < (n : Int) := by omega
          obtain ⟨v', hv'⟩ := cell_set_some (i := off + a) (.int .u32 y) c2
          go_wp2_with fail
          go_region
          go_wp2_with (go_at_call 80; refine Calls.mono (HSj.out _ rfl rfl rfl rfl) ?_; rintro e w2 ⟨rfl, hS2⟩; have HS2 : Hid _ := hS2; clear hS2)
          go_roundw
          case rel => exact ⟨k, (k : Int) - 1, d2, rfl, rfl, by omega, Hsz.out, HS2.out, Hej.out⟩
          case measure => simp [intOf]
        | zero =>
          obtain rfl : z = -1 := by omega
          clear hz
          have Hej : Hid (dj = heapPop ltInt a L dk) := hej
          have HSj : Hid (Sw w0 wr blk off dj) := hSj
          clear hSj hej gds HSk
          go_wp2_with fail
          go_end0
          exact ⟨rfl, by rw [Hh2.out, ← Hq.out, ← Hej.out]; exact HSj.out⟩
end Go.Proofs.Ybulkdbmw

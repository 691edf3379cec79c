import Derived.Test.YbulkdbmwSw
namespace Go.Proofs.Ybulkdbmw
open Go Go.RowKit Go.Sort

set_option maxHeartbeats 1600000 in
set_option maxRecDepth 100000 in
theorem reverse_u (blk off cap a b : Nat) (d : Array Int) (w0 w : World) (hS : Sw w0 w blk off d) (hab : a ≤ b) (hb : b ≤ d.size) (hsz : d.size < 1000000) :
    Calls Yba.prog 50 #[.slice (some ⟨blk, off, none⟩) d.size cap, .int .i64 a, .int .i64 b] w fun e w' => e = .returned (.tuple #[]) ∧ Sw w0 w' blk off (reverseRange d a b) := by
  have HS : Hid (Sw w0 w blk off d) := hS
  clear hS
  have hbI : (b : Int) ≤ (d.size : Int) := by omega
  generalize hn : d.size = n at *
  go_enter Yba.func50, Yba.ntmps50
  go_wp2
  go_loopw [6, 7] (fun s6 s7 wr => ∃ (i jn : Nat) (jz : Int) (dk : Array Int), s6 = .int .i64 i ∧ s7 = .int .i64 jz ∧ ((i : Int) < jz → jz = jn ∧ jn < n) ∧ (¬ (i : Int) < jz → ¬ i < jn) ∧ -1 ≤ jz ∧ i ≤ n ∧ dk.size = n ∧ Sw w0 wr blk off dk ∧ reverseLoop i jn dk = reverseRange d a b) (fun s6 s7 _ => (intOf s7 - intOf s6).toNat)
  case atStart => exact ⟨a, b - 1, (b : Int) - 1, d, rfl, rfl, fun h => ⟨by omega, by omega⟩, fun h => by omega, by omega, by omega, hn, HS.out, rfl⟩
  case round =>
    obtain ⟨i, jn, jz, dk, rfl, rfl, h1, h2, h3, h4, hds, hS, heq⟩ := hrel
    by_cases hlt : (i : Int) < jz
    · obtain ⟨rfl, hjn⟩ := h1 hlt
      have hij : i < jn := by omega
      have ci := hS.hd i (by omega)
      have cj := hS.hd jn (by omega)
      have fz := hS.fz
      have HSk : Hid _ := hS.swp (i := i) (j := jn) (by omega) (by omega)
      have Hq : Hid (reverseLoop (i + 1) (jn - 1) (swp dk i jn) = reverseRange d a b) := by show _ = _; rw [← heq]; conv => rhs; rw [reverseLoop, if_pos hij]
      have Hds : Hid (dk.size = n) := hds
      clear hS heq h1 h2 HS hn hds
      generalize dk[i]! = x at *
      generalize dk[jn]! = y at *
      go_wp2_with fail
      go_region
      go_wp2
      go_roundw
      case rel => exact ⟨i + 1, jn - 1, (jn : Int) - 1, _, by go_num, rfl, fun h => ⟨by omega, by omega⟩, fun h => by omega, by omega, by omega, by rw [swp_size]; exact Hds.out, HSk.out.dr, Hq.out⟩
      case measure => simp [intOf]; omega
    · have hnot := h2 hlt
      have Hq : Hid (dk = reverseRange d a b) := by show _ = _; rw [← heq, reverseLoop, if_neg hnot]
      have HSk : Hid _ := hS
      clear hS heq
      go_wp2_with fail
      go_end0
      exact ⟨rfl, by rw [← Hq.out]; exact HSk.out⟩

theorem insInner_go {a j : Nat} {d : Array Int} (h : a < j) (hl : ltInt d[j]! d[j - 1]! = true) : insInner ltInt a j d = insInner ltInt a (j - 1) (swp d j (j - 1)) := by
  cases j with
  | zero => omega
  | succ j => rw [insInner, if_pos (by simp only [Nat.add_sub_cancel] at hl; simp [hl]; omega)]; rfl
theorem insInner_stop {a j : Nat} {d : Array Int} (h : ¬ a < j ∨ ltInt d[j]! d[j - 1]! = false) : insInner ltInt a j d = d := by
  cases j with
  | zero => rfl
  | succ j =>
    rw [insInner, if_neg]
    rcases h with h | h
    · simp; omega
    · simp only [Nat.add_sub_cancel] at h; simp [h]

set_option maxHeartbeats 1600000 in
set_option maxRecDepth 100000 in
theorem ins_u (blk off cap a b : Nat) (d : Array Int) (w0 w : World) (hS : Sw w0 w blk off d) (hab : a ≤ b) (hb : b ≤ d.size) (hsz : d.size < 1000000) :
    Calls Yba.prog 46 #[.slice (some ⟨blk, off, none⟩) d.size cap, .int .i64 a, .int .i64 b] w fun e w' => e = .returned (.tuple #[]) ∧ Sw w0 w' blk off (insertionSort ltInt d a b) := by
  have HS : Hid (Sw w0 w blk off d) := hS
  clear hS
  generalize hn : d.size = n at *
  go_enter Yba.func46, Yba.ntmps46
  go_wp2
  go_loopw [6, 7] (fun s6 _ wr => ∃ (i : Nat) (dk : Array Int), s6 = .int .i64 i ∧ a + 1 ≤ i ∧ i ≤ n + 1 ∧ dk.size = n ∧ Sw w0 wr blk off dk ∧ insOuter ltInt a b i dk = insertionSort ltInt d a b) (fun s6 _ _ => (n + 1 - intOf s6).toNat)
  case atStart => exact ⟨a + 1, d, by go_num, Nat.le_refl _, by omega, hn, HS.out, rfl⟩
  case round =>
    obtain ⟨i, dk, rfl, h1, h2, hds, hS, heq⟩ := hrel
    by_cases hlt : i < b
    · have hltI : (i : Int) < (b : Int) := by omega
      have Hq : Hid (insOuter ltInt a b (i + 1) (insInner ltInt a i dk) = insertionSort ltInt d a b) := by show _ = _; rw [← heq]; conv => rhs; rw [insOuter, if_pos hlt]
      have HSk : Hid (Sw w0 wr blk off dk) := hS
      clear hS heq HS
      go_wp2_with fail
      go_loopw [7] (fun s7 wj => ∃ (j : Nat) (dj : Array Int), s7 = .int .i64 j ∧ a ≤ j ∧ j ≤ i ∧ dj.size = n ∧ Sw w0 wj blk off dj ∧ insInner ltInt a j dj = insInner ltInt a i dk) (fun s7 _ => (intOf s7).toNat)
      case atStart => exact ⟨i, dk, rfl, by omega, Nat.le_refl _, hds, HSk.out, rfl⟩
      case round =>
        obtain ⟨j, dj, rfl, g1, g2, gds, hSj, hej⟩ := hrel
        by_cases hja : a < j
        · obtain ⟨j', rfl⟩ : ∃ j', j = j' + 1 := ⟨j - 1, by omega⟩
          have hjaI : (a : Int) < (j' : Int) + 1 := by omega
          have cj := hSj.hd (j' + 1) (by omega)
          have cj1 := hSj.hd j' (by omega)
          have fz := hSj.fz
          have HSj : Hid (Sw w0 wr blk off dj) := hSj
          have Hsw : Hid _ := hSj.swp (i := j' + 1) (j := j') (by omega) (by omega)
          have Hej : Hid _ := hej
          have Hgo : Hid (ltInt dj[j' + 1]! dj[j']! = true → insInner ltInt a (j' + 1) dj = insInner ltInt a j' (swp dj (j' + 1) j')) := fun h => insInner_go hja h
          have Hst : Hid (ltInt dj[j' + 1]! dj[j']! = false → insInner ltInt a (j' + 1) dj = dj) := fun h => insInner_stop (Or.inr h)
          have hnI : (j' : Int) + 1 < (n : Int) := by omega
          have HLs : Hid (∀ wz : World, Calls Yba.prog 52 #[.int .u32 dj[j' + 1]!, .int .u32 dj[j']!] wz fun e w' => e = .returned (.bool (ltInt dj[j' + 1]! dj[j']!)) ∧ w' = wz) := fun wz => less_u _ _ wz
          have Hgds : Hid (dj.size = n) := gds
          clear hSj hej HSk hn hds gds
          generalize dj[j' + 1]! = x at *
          generalize dj[j']! = y at *
          by_cases hl : ltInt x y = true
          · rw [hl] at HLs
            clear Hst
            go_wp2_with fail
            go_quiet ((go_at_call 52; exact Calls.quiet_of_same (HLs.out _)))
            rename_i nq
            go_wp2_with fail
            go_region
            go_wp2
            go_roundw
            case rel => exact ⟨j', _, by go_num, by omega, by omega, by rw [swp_size]; exact Hgds.out, Hsw.out.same rfl rfl rfl rfl, by rw [← Hgo.out hl]; exact Hej.out⟩
            case measure => simp [intOf]
          · have hlf : ltInt x y = false := by simpa using hl
            rw [hlf] at HLs
            go_wp2_with fail
            go_quiet ((go_at_call 52; exact Calls.quiet_of_same (HLs.out _)))
            rename_i nq
            go_wp2_with fail
            go_roundw
            case rel => exact ⟨i + 1, _, by go_num, by omega, by omega, Hgds.out, HSj.out.dN nq, by have := Hq.out; rw [← Hej.out, Hst.out hlf] at this; exact this⟩
            case measure => simp [intOf]; omega
        · have hjaI : decide ((a : Int) < (j : Int)) = false := by simp; omega
          have HSj : Hid (Sw w0 wr blk off dj) := hSj
          have Hst : Hid (insInner ltInt a j dj = dj) := insInner_stop (Or.inl hja)
          have Hej : Hid _ := hej
          clear hSj hej HSk
          go_wp2_with fail
          go_quiet (fail)
          rename_i nq
          go_wp2_with fail
          go_roundw
          case rel => exact ⟨i + 1, _, by go_num, by omega, by omega, gds, HSj.out.dN nq, by have := Hq.out; rw [← Hej.out, Hst.out] at this; exact this⟩
          case measure => simp [intOf]; omega
    · have hltI : ¬ (i : Int) < (b : Int) := by omega
      have Hq : Hid (dk = insertionSort ltInt d a b) := by show _ = _; rw [← heq, insOuter, if_neg hlt]
      have HSk : Hid _ := hS
      clear hS heq HS
      go_wp2_with fail
      go_end0
      exact ⟨rfl, by rw [← Hq.out]; exact HSk.out⟩
end Go.Proofs.Ybulkdbmw

import Derived.Test.YbulkdbmwPart2
namespace Go.Proofs.Ybulkdbmw
open Go Go.RowKit Go.Sort

theorem scanSorted_go {d : Array Int} {b i : Nat} (h1 : i < b) (h2 : ltInt d[i]! d[i - 1]! = false) : scanSorted ltInt d b i = scanSorted ltInt d b (i + 1) := by
  conv => lhs; rw [scanSorted]
  rw [if_pos (by simp [h1, h2])]
theorem scanSorted_stop {d : Array Int} {b i : Nat} (h : ¬ i < b ∨ ltInt d[i]! d[i - 1]! = true) : scanSorted ltInt d b i = i := by
  rw [scanSorted, if_neg]
  rcases h with h | h <;> simp [h]
theorem scanSorted_ge (d : Array Int) (b : Nat) : ∀ k i, b - i ≤ k → i ≤ scanSorted ltInt d b i ∧ (i ≤ b → scanSorted ltInt d b i ≤ b)
  | 0, i, h => by rw [scanSorted_stop (Or.inl (by omega))]; omega
  | k + 1, i, h => by
    by_cases h1 : i < b
    · by_cases h2 : ltInt d[i]! d[i - 1]! = true
      · rw [scanSorted_stop (Or.inr h2)]; omega
      · rw [scanSorted_go h1 (by simpa using h2)]; have := scanSorted_ge d b k (i + 1) (by omega); omega
    · rw [scanSorted_stop (Or.inl h1)]; omega
theorem shiftDown_size : ∀ (j : Nat) (d : Array Int), (shiftDown ltInt j d).size = d.size
  | 0, _ => rfl
  | j + 1, d => by
    rw [shiftDown]
    split
    · rfl
    · rw [shiftDown_size j, swp_size]
theorem shiftUp_size (b : Nat) : ∀ (k j : Nat) (d : Array Int), b - j ≤ k → (shiftUp ltInt b j d).size = d.size
  | 0, j, d, h => by rw [shiftUp, if_neg (by omega)]
  | k + 1, j, d, h => by
    rw [shiftUp]
    split
    · split
      · rfl
      · rw [shiftUp_size b k (j + 1) _ (by omega), swp_size]
    · rfl

set_option maxHeartbeats 6400000 in
set_option maxRecDepth 100000 in
theorem pins_u (blk off cap a b : Nat) (d : Array Int) (w0 w : World) (hS : Sw w0 w blk off d) (hab : a < b) (hb : b ≤ d.size) (hsz : d.size < 1000000) :
    Calls Yba.prog 51 #[.slice (some ⟨blk, off, none⟩) d.size cap, .int .i64 a, .int .i64 b] w fun e w' => e = .returned (.bool (partialInsertionSort ltInt d a b).2) ∧ Sw w0 w' blk off (partialInsertionSort ltInt d a b).1 := by
  have HS : Hid (Sw w0 w blk off d) := hS
  have HR : Hid (partialIns ltInt a b 5 (a + 1) d = partialInsertionSort ltInt d a b) := rfl
  have HLs : Hid (∀ (x y : Int) (wz : World), Calls Yba.prog 52 #[.int .u32 x, .int .u32 y] wz fun e w' => e = .returned (.bool (ltInt x y)) ∧ w' = wz) := fun x y wz => less_u x y wz
  generalize partialInsertionSort ltInt d a b = R at *
  clear hS
  generalize hn : d.size = n at *
  go_enter Yba.func51, Yba.ntmps51
  go_wp2_with fail
  go_loopw [7, 8] (fun s7 s8 wr => ∃ (s i : Nat) (z : Int) (dk : Array Int), s8 = .int .i64 z ∧ z = 5 - (s : Int) ∧ s ≤ 5 ∧ s7 = .int .i64 i ∧ a + 1 ≤ i ∧ i ≤ b ∧ dk.size = n ∧ Sw w0 wr blk off dk ∧ partialIns ltInt a b s i dk = R) (fun _ s8 _ => (5 - intOf s8).toNat)
  case atStart => exact ⟨5, a + 1, 0, d, rfl, by omega, by omega, by go_num, by omega, by omega, hn, HS.out, HR.out⟩
  case round =>
    obtain ⟨s, i, z, dk, rfl, hz, hs5, rfl, h1, h2, hds, hS, heq⟩ := hrel
    clear HS HR hn
    cases s with
    | zero =>
      obtain rfl : z = 5 := by omega
      have Hr : Hid (R = (dk, false)) := heq.symm
      have HS1 : Hid (Sw w0 wr blk off dk) := hS
      clear hS heq hz
      go_wp2_with fail
      go_ret
      exact ⟨by rw [Hr.out]; rfl, by rw [Hr.out]; exact HS1.out⟩
    | succ s =>
      have hzI : z < 5 := by omega
      have HSk : Hid (Sw w0 wr blk off dk) := hS
      have Hds : Hid (dk.size = n) := hds
      obtain ⟨i1, hi1⟩ : ∃ i1, scanSorted ltInt dk b i = i1 := ⟨_, rfl⟩
      have gi := scanSorted_ge dk b _ i (Nat.le_refl _)
      rw [hi1] at gi
      have gi1 : i ≤ i1 ∧ i1 ≤ b := ⟨gi.1, gi.2 h2⟩
      have Hi1 : Hid (scanSorted ltInt dk b i = i1) := hi1
      obtain ⟨d2, hd2⟩ : ∃ d2, swp dk i1 (i1 - 1) = d2 := ⟨_, rfl⟩
      obtain ⟨d3, hd3⟩ : ∃ d3, (if i1 - a ≥ 2 then shiftDown ltInt (i1 - 1) d2 else d2) = d3 := ⟨_, rfl⟩
      obtain ⟨d4, hd4⟩ : ∃ d4, (if b - i1 ≥ 2 then shiftUp ltInt b (i1 + 1) d3 else d3) = d4 := ⟨_, rfl⟩
      have hR : R = if i1 = b then (dk, true) else if b - a < 50 then (dk, false) else partialIns ltInt a b s i1 d4 := by
        rw [← heq, partialIns]
        simp only [hi1, hd2, hd3, hd4]
      have e2 : d2.size = n := by rw [← hd2, swp_size]; exact hds
      have e3 : d3.size = n := by
        rw [← hd3]
        split
        · rw [shiftDown_size]; exact e2
        · exact e2
      have e4 : d4.size = n := by
        rw [← hd4]
        split
        · rw [shiftUp_size b _ _ _ (Nat.le_refl _)]; exact e3
        · exact e3
      have Hd2 : Hid _ := hd2
      have Hd3 : Hid _ := hd3
      have Hd4 : Hid _ := hd4
      have He2 : Hid _ := e2
      have He3 : Hid _ := e3
      have He4 : Hid _ := e4
      have Hrr : Hid _ := hR
      clear hS heq hds hi1 gi hd2 hd3 hd4 hR e2 e3 e4
      go_upto_block 2 with fail
      go_cut [7] from 17 to 34 (fun s7 wx => s7 = .int .i64 i1 ∧ Sw w0 wx blk off dk)
      case first =>
        clear Hd2 Hd3 Hd4 Hrr He2 He3 He4
        go_wp2_with fail
        go_loopw [7] (fun s7 wr => ∃ i' : Nat, s7 = .int .i64 i' ∧ i ≤ i' ∧ i' ≤ b ∧ Sw w0 wr blk off dk ∧ scanSorted ltInt dk b i' = i1) (fun s7 _ => ((b : Int) - intOf s7).toNat)
        case atStart => exact ⟨i, rfl, Nat.le_refl _, h2, HSk.out, Hi1.out⟩
        case round =>
          obtain ⟨i', rfl, g1, g2, hS, he⟩ := hrel
          have HS1 : Hid (Sw w0 wr blk off dk) := hS
          have He : Hid (scanSorted ltInt dk b i' = i1) := he
          by_cases hij : i' < b
          · obtain ⟨k, rfl⟩ : ∃ k, i' = k + 1 := ⟨i' - 1, by omega⟩
            have hijI : (k : Int) + 1 < (b : Int) := by omega
            have c1 := hS.hd k (by rw [Hds.out]; omega)
            have c2 := hS.hd (k + 1) (by rw [Hds.out]; omega)
            have Hgo : Hid (ltInt dk[k + 1]! dk[k]! = false → scanSorted ltInt dk b (k + 1 + 1) = i1) := fun h => by rw [← He.out]; exact (scanSorted_go hij h).symm
            have Hst : Hid (ltInt dk[k + 1]! dk[k]! = true → i1 = k + 1) := fun h => by rw [← He.out]; exact scanSorted_stop (Or.inr h)
            have HLs1 : Hid _ := HLs.out dk[k + 1]! dk[k]!
            have hjn : (k : Int) + 1 < (n : Int) := by omega
            clear hS he HSk Hi1 He
            by_cases hl : ltInt dk[k + 1]! dk[k]! = true
            · rw [hl] at HLs1
              have hst := Hst.out hl
              clear Hst Hgo hl
              generalize dk[k]! = xa at *
              generalize dk[k + 1]! = xi at *
              go_wp2_with fail
              go_quiet ((go_at_call 52; exact Calls.quiet_of_same (HLs1.out _)))
              rename_i nq
              go_wp2_with fail
              go_meet
              exact ⟨by rw [hst], HS1.out.dN nq⟩
            · have hlf : ltInt dk[k + 1]! dk[k]! = false := by simpa using hl
              rw [hlf] at HLs1
              have Hst2 : Hid _ := Hgo.out hlf
              clear Hst Hgo hl hlf
              generalize dk[k]! = xa at *
              generalize dk[k + 1]! = xi at *
              go_wp2_with fail
              go_quiet ((go_at_call 52; exact Calls.quiet_of_same (HLs1.out _)))
              rename_i nq
              go_wp2_with fail
              go_roundw
              case rel => exact ⟨k + 1 + 1, by go_num, by omega, by omega, HS1.out.dN nq, Hst2.out⟩
              case measure => simp [intOf]; omega
          · have hijI : decide ((i' : Int) < (b : Int)) = false := by simp; omega
            have hst : i1 = i' := by rw [← He.out]; exact scanSorted_stop (Or.inl hij)
            clear hS he HSk Hi1 He
            go_wp2_with fail
            go_quiet (fail)
            rename_i nq
            go_wp2_with fail
            go_meet
            exact ⟨by rw [hst], HS1.out.dN nq⟩
      case rest =>
        obtain ⟨rfl, hS⟩ := hcut
        have HS1 : Hid (Sw w0 wc blk off dk) := hS
        clear HSk Hi1
        by_cases hib : i1 = b
        · have Hr : Hid (R = (dk, true)) := by show _ = _; rw [Hrr.out, if_pos hib]
          clear Hd2 Hd3 Hd4 Hrr He2 He3 He4 hS
          have hibI : (i1 : Int) = (b : Int) := by omega
          go_wp2_with fail
          go_ret
          exact ⟨by rw [Hr.out]; rfl, by rw [Hr.out]; exact HS1.out⟩
        · have hibI : decide ((i1 : Int) = (b : Int)) = false := by simp; omega
          have hibB : ((i1 : Int) == (b : Int)) = false := by simp; omega
          by_cases h50 : b - a < 50
          · have Hr : Hid (R = (dk, false)) := by show _ = _; rw [Hrr.out, if_neg hib, if_pos h50]
            clear Hd2 Hd3 Hd4 Hrr He2 He3 He4 hS
            have h50I : (b : Int) - (a : Int) < 50 := by omega
            go_wp2_with fail
            go_ret
            exact ⟨by rw [Hr.out]; rfl, by rw [Hr.out]; exact HS1.out⟩
          · have h50I : decide ((b : Int) - (a : Int) < 50) = false := by simp; omega
            have Hr : Hid (R = partialIns ltInt a b s i1 d4) := by show _ = _; rw [Hrr.out, if_neg hib, if_neg h50]
            obtain ⟨k, rfl⟩ : ∃ k, i1 = k + 1 := ⟨i1 - 1, by omega⟩
            have c1 := hS.hd k (by rw [Hds.out]; omega)
            have c2 := hS.hd (k + 1) (by rw [Hds.out]; omega)
            have fz := hS.fz
            have Hsw : Hid _ := hS.swp (i := k + 1) (j := k) (by rw [Hds.out]; omega) (by rw [Hds.out]; omega)
            have hkn : (k : Int) + 1 < (n : Int) := by omega
            rw [show swp dk (k + 1) k = d2 from Hd2.out] at Hsw
            clear hS Hrr HS1 Hd2
            generalize dk[k]! = xa at *
            generalize dk[k + 1]! = xb at *
            go_upto_region 11 with fail
            go_region
            have HS2 : Hid (Sw w0 _ blk off d2) := Hsw
            go_upto_if 61 with fail
            go_cut [] from 62 to 94 (fun wx => Sw w0 wx blk off d3)
            case first =>
              by_cases h2a : 2 ≤ k + 1 - a
              · have h2I : 2 ≤ (k : Int) + 1 - (a : Int) := by omega
                have h3 : shiftDown ltInt k d2 = d3 := by have := Hd3.out; rw [if_pos h2a] at this; exact this
                have H3 : Hid _ := h3
                clear h3 Hd3 Hd4 He3 He4 Hr c1 c2 fz
                go_wp2_with fail
                go_loopw [9] (fun s9 wr => ∃ (j : Nat) (dj : Array Int), s9 = .int .i64 j ∧ j ≤ k ∧ dj.size = n ∧ Sw w0 wr blk off dj ∧ shiftDown ltInt j dj = d3) (fun s9 _ => (intOf s9).toNat)
                case atStart => exact ⟨k, d2, by go_num, Nat.le_refl _, He2.out, HS2.out.same rfl rfl rfl rfl, H3.out⟩
                case round =>
                  obtain ⟨j, dj, rfl, g1, gds, hSj, hej⟩ := hrel
                  have HSj : Hid (Sw w0 wr blk off dj) := hSj
                  clear Hsw HS2 H3
                  cases j with
                  | zero =>
                    have H3 : Hid (dj = d3) := hej
                    clear hSj hej
                    go_wp2_with fail
                    go_meet
                    rw [← H3.out]; exact HSj.out
                  | succ j =>
                    have c1 := hSj.hd j (by omega)
                    have c2 := hSj.hd (j + 1) (by omega)
                    have fz := hSj.fz
                    have Hsj : Hid _ := hSj.swp (i := j + 1) (j := j) (by omega) (by omega)
                    have Hsz : Hid ((swp dj (j + 1) j).size = n) := (swp_size _ _ _).trans gds
                    have Hgo : Hid (ltInt dj[j + 1]! dj[j]! = true → shiftDown ltInt j (swp dj (j + 1) j) = d3) := fun h => by rw [← hej]; conv => rhs; rw [shiftDown, if_neg (by simp [h])]
                    have Hst : Hid (ltInt dj[j + 1]! dj[j]! = false → dj = d3) := fun h => by rw [← hej, shiftDown, if_pos (by simp [h])]
                    have HLs1 : Hid _ := HLs.out dj[j + 1]! dj[j]!
                    have hjn : (j : Int) + 1 < (n : Int) := by omega
                    clear hSj hej
                    by_cases hl : ltInt dj[j + 1]! dj[j]! = true
                    · rw [hl] at HLs1
                      have Hst2 : Hid _ := Hgo.out hl
                      clear Hst Hgo hl
                      generalize dj[j]! = ya at *
                      generalize dj[j + 1]! = yb at *
                      go_wp2_with fail
                      go_quiet ((go_at_call 52; exact Calls.quiet_of_same (HLs1.out _)))
                      rename_i nq
                      go_wp2_with fail
                      go_region
                      go_wp2_with fail
                      go_roundw
                      case rel => exact ⟨j, _, by go_num, by omega, Hsz.out, Hsj.out.same rfl rfl rfl rfl, Hst2.out⟩
                      case measure => simp [intOf]
                    · have hlf : ltInt dj[j + 1]! dj[j]! = false := by simpa using hl
                      rw [hlf] at HLs1
                      have Hst2 : Hid _ := Hst.out hlf
                      clear Hst Hgo hl hlf
                      generalize dj[j]! = ya at *
                      generalize dj[j + 1]! = yb at *
                      go_wp2_with fail
                      go_quiet ((go_at_call 52; exact Calls.quiet_of_same (HLs1.out _)))
                      rename_i nq
                      go_wp2_with fail
                      go_meet
                      rw [← Hst2.out]; exact HSj.out.dN nq
              · have h2I : decide (2 ≤ (k : Int) + 1 - (a : Int)) = false := by simp; omega
                have h3 : d2 = d3 := by have := Hd3.out; rw [if_neg h2a] at this; exact this
                have H3 : Hid _ := h3
                clear h3 Hd3 Hd4 He3 He4 Hr c1 c2 fz
                go_wp2_with fail
                go_meet
                rw [← H3.out]; exact HS2.out.same rfl rfl rfl rfl
            case rest =>
              have HS3 : Hid (Sw w0 wc blk off d3) := hcut
              clear hcut HS2 Hsw Hd3 He2 c1 c2 fz
              go_upto_if 98 with fail
              by_cases h2b : 2 ≤ b - (k + 1)
              · have h2I : 2 ≤ (b : Int) - ((k : Int) + 1) := by omega
                have h4 : shiftUp ltInt b (k + 2) d3 = d4 := by have := Hd4.out; rw [if_pos h2b] at this; exact this
                have H4 : Hid _ := h4
                clear h4 Hd4
                go_wp2_with fail
                go_loopw [10] (fun s10 wr => ∃ (j : Nat) (dj : Array Int), s10 = .int .i64 j ∧ k + 2 ≤ j ∧ j ≤ b ∧ dj.size = n ∧ Sw w0 wr blk off dj ∧ shiftUp ltInt b j dj = d4) (fun s10 _ => ((b : Int) - intOf s10).toNat)
                case atStart => exact ⟨k + 2, d3, by go_num, Nat.le_refl _, by omega, He3.out, HS3.out, H4.out⟩
                case round =>
                  obtain ⟨j, dj, rfl, g1, g2, gds, hSj, hej⟩ := hrel
                  have HSj : Hid (Sw w0 wr blk off dj) := hSj
                  clear HS3 H4
                  by_cases hjb : j < b
                  · obtain ⟨q, rfl⟩ : ∃ q, j = q + 1 := ⟨j - 1, by omega⟩
                    have hjbI : (q : Int) + 1 < (b : Int) := by omega
                    have c1 := hSj.hd q (by omega)
                    have c2 := hSj.hd (q + 1) (by omega)
                    have fz := hSj.fz
                    have Hsj : Hid _ := hSj.swp (i := q + 1) (j := q) (by omega) (by omega)
                    have Hsz : Hid ((swp dj (q + 1) q).size = n) := (swp_size _ _ _).trans gds
                    have Hgo : Hid (ltInt dj[q + 1]! dj[q]! = true → shiftUp ltInt b (q + 1 + 1) (swp dj (q + 1) q) = d4) := fun h => by have e := hej; rw [shiftUp, if_pos hjb, if_neg (by simp only [Nat.add_sub_cancel]; simp [h])] at e; exact e
                    have Hst : Hid (ltInt dj[q + 1]! dj[q]! = false → dj = d4) := fun h => by rw [← hej, shiftUp, if_pos hjb, if_pos (by simp only [Nat.add_sub_cancel]; simp [h])]
                    have HLs1 : Hid _ := HLs.out dj[q + 1]! dj[q]!
                    have hjn : (q : Int) + 1 < (n : Int) := by omega
                    clear hSj hej
                    by_cases hl : ltInt dj[q + 1]! dj[q]! = true
                    · rw [hl] at HLs1
                      have Hst2 : Hid _ := Hgo.out hl
                      clear Hst Hgo hl
                      generalize dj[q]! = ya at *
                      generalize dj[q + 1]! = yb at *
                      go_wp2_with fail
                      go_quiet ((go_at_call 52; exact Calls.quiet_of_same (HLs1.out _)))
                      rename_i nq
                      go_wp2_with fail
                      go_region
                      go_wp2_with fail
                      go_roundw
                      case rel => exact ⟨q + 1 + 1, _, by go_num, by omega, by omega, Hsz.out, Hsj.out.same rfl rfl rfl rfl, Hst2.out⟩
                      case measure => simp [intOf]; omega
                    · have hlf : ltInt dj[q + 1]! dj[q]! = false := by simpa using hl
                      rw [hlf] at HLs1
                      have Hst2 : Hid _ := Hst.out hlf
                      clear Hst Hgo hl hlf
                      generalize dj[q]! = ya at *
                      generalize dj[q + 1]! = yb at *
                      go_wp2_with fail
                      go_quiet ((go_at_call 52; exact Calls.quiet_of_same (HLs1.out _)))
                      rename_i nq
                      go_wp2_with fail
                      go_roundw
                      case rel => exact ⟨s, k + 1, _, d4, rfl, by omega, by omega, rfl, by omega, by omega, He4.out, (by rw [← Hst2.out]; exact HSj.out.dN nq), Hr.out.symm⟩
                      case measure => simp [intOf]; omega
                  · have hjbI : ¬ (j : Int) < (b : Int) := by omega
                    have H4 : Hid (dj = d4) := by show _ = _; rw [← hej, shiftUp, if_neg hjb]
                    clear hSj hej
                    go_wp2_with fail
                    go_roundw
                    case rel => exact ⟨s, k + 1, _, d4, rfl, by omega, by omega, rfl, by omega, by omega, He4.out, (by rw [← H4.out]; exact HSj.out), Hr.out.symm⟩
                    case measure => simp [intOf]; omega
              · have h2I : decide (2 ≤ (b : Int) - ((k : Int) + 1)) = false := by simp; omega
                have h4 : d3 = d4 := by have := Hd4.out; rw [if_neg h2b] at this; exact this
                have H4 : Hid _ := h4
                clear h4 Hd4
                go_wp2_with fail
                go_roundw
                case rel => exact ⟨s, k + 1, _, d4, rfl, by omega, by omega, rfl, by omega, by omega, He4.out, (by rw [← H4.out]; exact HS3.out), Hr.out.symm⟩
                case measure => simp [intOf]; omega
end Go.Proofs.Ybulkdbmw

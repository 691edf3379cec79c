import Derived.Test.YbulkdbmwHeap
import Derived.Deep.CutBlock
namespace Go.Proofs.Ybulkdbmw
open Go Go.RowKit Go.Sort

theorem scanUp_go {p : Int → Bool} {d : Array Int} {i j : Nat} (h1 : i ≤ j) (h2 : p d[i]! = true) : scanUp p d j i = scanUp p d j (i + 1) := by
  conv => lhs; rw [scanUp]
  rw [if_pos (by simp [h1, h2])]
theorem scanUp_stop {p : Int → Bool} {d : Array Int} {i j : Nat} (h : ¬ i ≤ j ∨ p d[i]! = false) : scanUp p d j i = i := by
  rw [scanUp, if_neg]
  rcases h with h | h <;> simp [h]
theorem scanDown_go {p : Int → Bool} {d : Array Int} {i j : Nat} (h1 : i ≤ j + 1) (h2 : p d[j + 1]! = true) : scanDown p d i (j + 1) = scanDown p d i j := by
  conv => lhs; rw [scanDown]
  rw [if_pos (by simp [h1, h2])]
theorem scanDown_stop {p : Int → Bool} {d : Array Int} {i j : Nat} (h : ¬ i ≤ j ∨ p d[j]! = false) (hj : 1 ≤ j ∨ 1 ≤ i) : scanDown p d i j = j := by
  cases j with
  | zero => rfl
  | succ j =>
    rw [scanDown, if_neg]
    rcases h with h | h
    · simp; omega
    · simp [h]
theorem scanUp_ge (p : Int → Bool) (d : Array Int) (j : Nat) : ∀ k i, j + 1 - i ≤ k → i ≤ scanUp p d j i ∧ (i ≤ j + 1 → scanUp p d j i ≤ j + 1)
  | 0, i, h => by rw [scanUp_stop (Or.inl (by omega))]; omega
  | k + 1, i, h => by
    by_cases h1 : i ≤ j
    · by_cases h2 : p d[i]! = true
      · rw [scanUp_go h1 h2]; have := scanUp_ge p d j k (i + 1) (by omega); omega
      · rw [scanUp_stop (Or.inr (by simpa using h2))]; omega
    · rw [scanUp_stop (Or.inl h1)]; omega
theorem scanDown_le (p : Int → Bool) (d : Array Int) (i : Nat) : ∀ j, scanDown p d i j ≤ j ∧ (i ≤ j + 1 → 1 ≤ i → i ≤ scanDown p d i j + 1)
  | 0 => ⟨Nat.le_refl _, fun h _ => h⟩
  | j + 1 => by
    by_cases h1 : i ≤ j + 1
    · by_cases h2 : p d[j + 1]! = true
      · rw [scanDown_go h1 h2]; have := scanDown_le p d i j; omega
      · rw [scanDown_stop (Or.inr (by simpa using h2)) (Or.inl (by omega))]; omega
    · rw [scanDown_stop (Or.inl h1) (Or.inl (by omega))]; omega

theorem partEq_stop {a i j : Nat} {d : Array Int} {i2 j2 : Nat} (h1 : scanUp (fun x => !ltInt d[a]! x) d j i = i2) (h2 : scanDown (fun x => ltInt d[a]! x) d i2 j = j2) (h : j2 < i2) : partEqLoop ltInt a i j d = (i2, d) := by
  rw [partEqLoop, h1]
  show (match scanDown (fun x => ltInt d[a]! x) d i2 j with | j2 => if i2 > j2 then (i2, d) else _) = _
  rw [h2]
  exact if_pos h
theorem partEq_go {a i j : Nat} {d : Array Int} {i2 j2 : Nat} (h1 : scanUp (fun x => !ltInt d[a]! x) d j i = i2) (h2 : scanDown (fun x => ltInt d[a]! x) d i2 j = j2) (h : ¬ j2 < i2) (_hi : 1 ≤ i) : partEqLoop ltInt a i j d = partEqLoop ltInt a (i2 + 1) (j2 - 1) (swp d i2 j2) := by
  have g1 := scanUp_ge (fun x => !ltInt d[a]! x) d j _ i (Nat.le_refl _)
  have g2 := scanDown_le (fun x => ltInt d[a]! x) d i2 j
  rw [h1] at g1
  rw [h2] at g2
  conv => lhs; rw [partEqLoop, h1]
  show (match scanDown (fun x => ltInt d[a]! x) d i2 j with | j2 => if i2 > j2 then (i2, d) else if _h : (j2 - 1) + 1 - (i2 + 1) < j + 1 - i then partEqLoop ltInt a (i2 + 1) (j2 - 1) (swp d i2 j2) else (i2, d)) = _
  rw [h2]
  show (if i2 > j2 then (i2, d) else if _h : (j2 - 1) + 1 - (i2 + 1) < j + 1 - i then partEqLoop ltInt a (i2 + 1) (j2 - 1) (swp d i2 j2) else (i2, d)) = _
  rw [if_neg h, dif_pos (by omega)]

set_option maxHeartbeats 3200000 in
set_option maxRecDepth 100000 in
theorem partEq_u (blk off cap a b pivot : Nat) (d : Array Int) (w0 w : World) (hS : Sw w0 w blk off d) (hap : a ≤ pivot) (hpb : pivot < b) (hb : b ≤ d.size) (hsz : d.size < 1000000) :
    Calls Yba.prog 53 #[.slice (some ⟨blk, off, none⟩) d.size cap, .int .i64 a, .int .i64 b, .int .i64 pivot] w fun e w' => e = .returned (.int .i64 (partitionEqual ltInt d a b pivot).1) ∧ Sw w0 w' blk off (partitionEqual ltInt d a b pivot).2 := by
  have Hpe : Hid (partitionEqual ltInt d a b pivot = partEqLoop ltInt a (a + 1) (b - 1) (swp d a pivot)) := rfl
  have c1 := hS.hd a (by omega)
  have c2 := hS.hd pivot (by omega)
  have fz := hS.fz
  have Hsw : Hid _ := hS.swp (i := a) (j := pivot) (by omega) (by omega)
  have Hsz : Hid ((swp d a pivot).size = d.size) := swp_size _ _ _
  have HLs : Hid (∀ (x y : Int) (wz : World), Calls Yba.prog 52 #[.int .u32 x, .int .u32 y] wz fun e w' => e = .returned (.bool (ltInt x y)) ∧ w' = wz) := fun x y wz => less_u x y wz
  obtain ⟨v', hv'⟩ := cell_set_some (i := off + a) (.int .u32 d[pivot]!) c2
  generalize hd1 : swp d a pivot = d1 at *
  generalize partitionEqual ltInt d a b pivot = R at *
  clear hS hd1
  generalize hn : d.size = n at *
  generalize d[a]! = x at *
  generalize d[pivot]! = y at *
  have hn' : Hid (d1.size = n) := Hsz.out
  clear Hsz hn
  go_enter Yba.func53, Yba.ntmps53
  go_wp2_with fail
  go_region
  go_wp2_with fail
  clear hv' c1 c2 fz
  go_loopw [9, 10] (fun s9 s10 wr => ∃ (i j : Nat) (dk : Array Int), s9 = .int .i64 i ∧ s10 = .int .i64 j ∧ a + 1 ≤ i ∧ i ≤ j + 2 ∧ j < n ∧ dk.size = n ∧ Sw w0 wr blk off dk ∧ partEqLoop ltInt a i j dk = R) (fun s9 s10 _ => (intOf s10 + 3 - intOf s9).toNat)
  case atStart => exact ⟨a + 1, b - 1, d1, by go_num, by simp; omega, Nat.le_refl _, by omega, by omega, hn'.out, Hsw.out.same rfl rfl rfl rfl, Hpe.out.symm⟩
  case round =>
    obtain ⟨i, j, dk, rfl, rfl, h1, h2, h3, hds, hS, heq⟩ := hrel
    have HSk : Hid (Sw w0 wr blk off dk) := hS
    have Hq : Hid (partEqLoop ltInt a i j dk = R) := heq
    have Hds : Hid (dk.size = n) := hds
    obtain ⟨i2, hi2⟩ : ∃ i2, scanUp (fun x => !ltInt dk[a]! x) dk j i = i2 := ⟨_, rfl⟩
    obtain ⟨j2, hj2⟩ : ∃ j2, scanDown (fun x => ltInt dk[a]! x) dk i2 j = j2 := ⟨_, rfl⟩
    have gu := scanUp_ge (fun x => !ltInt dk[a]! x) dk j _ i (Nat.le_refl _)
    have gd := scanDown_le (fun x => ltInt dk[a]! x) dk i2 j
    rw [hi2] at gu
    rw [hj2] at gd
    have gi2 : i ≤ i2 ∧ i2 ≤ j + 2 := by
      by_cases hx : i ≤ j + 1
      · have := gu.2 hx; omega
      · have : i2 = i := by rw [← hi2]; exact scanUp_stop (Or.inl (by omega))
        omega
    have gj2 : j2 ≤ j ∧ i2 ≤ j2 + 2 := by
      by_cases hx : i2 ≤ j + 1
      · have := gd.2 hx (by omega); omega
      · have : j2 = j := by rw [← hj2]; exact scanDown_stop (Or.inl (by omega)) (Or.inr (by omega))
        omega
    have Hi2 : Hid (scanUp (fun x => !ltInt dk[a]! x) dk j i = i2) := hi2
    have Hj2 : Hid (scanDown (fun x => ltInt dk[a]! x) dk i2 j = j2) := hj2
    clear hS heq hds Hpe Hsw hn' hi2 hj2 gu gd
    go_upto_block 2 with fail
    go_cut [9] from 29 to 45 (fun s9 wx => s9 = .int .i64 i2 ∧ Sw w0 wx blk off dk)
    case first =>
      go_wp2_with fail
      go_loopw [9] (fun s9 wr => ∃ i' : Nat, s9 = .int .i64 i' ∧ i ≤ i' ∧ i' ≤ j + 2 ∧ Sw w0 wr blk off dk ∧ scanUp (fun x => !ltInt dk[a]! x) dk j i' = i2) (fun s9 _ => (intOf (.int .i64 j) + 3 - intOf s9).toNat)
      case atStart => exact ⟨i, rfl, Nat.le_refl _, h2, HSk.out, Hi2.out⟩
      case round =>
        obtain ⟨i', rfl, g1, g2, hS, he⟩ := hrel
        have HS1 : Hid (Sw w0 wr blk off dk) := hS
        have He : Hid (scanUp (fun x => !ltInt dk[a]! x) dk j i' = i2) := he
        by_cases hij : i' ≤ j
        · have hijI : (i' : Int) ≤ (j : Int) := by omega
          have c1 := hS.hd a (by rw [Hds.out]; omega)
          have c2 := hS.hd i' (by rw [Hds.out]; omega)
          have Hgo : Hid (ltInt dk[a]! dk[i']! = false → scanUp (fun x => !ltInt dk[a]! x) dk j (i' + 1) = i2) := fun h => by rw [← He.out]; exact (scanUp_go hij (by simp [h])).symm
          have Hst : Hid (ltInt dk[a]! dk[i']! = true → i2 = i') := fun h => by rw [← He.out]; exact scanUp_stop (Or.inr (by simp [h]))
          have HLs1 : Hid _ := HLs.out dk[a]! dk[i']!
          have hjn : (i' : Int) < (n : Int) := by omega
          have han : (a : Int) < (n : Int) := by omega
          clear hS he HSk Hi2 Hj2 He
          by_cases hl : ltInt dk[a]! dk[i']! = true
          · rw [hl] at HLs1
            have hst := Hst.out hl
            clear Hst Hgo hl
            generalize dk[a]! = xa at *
            generalize dk[i']! = xi at *
            go_wp2_with fail
            go_quiet ((go_at_call 52; exact Calls.quiet_of_same (HLs1.out _)))
            rename_i nq
            go_wp2_with fail
            go_meet
            exact ⟨by rw [hst], HS1.out.dN nq⟩
          · have hlf : ltInt dk[a]! dk[i']! = false := by simpa using hl
            rw [hlf] at HLs1
            have Hst2 : Hid _ := Hgo.out hlf
            clear Hst Hgo hl hlf
            generalize dk[a]! = xa at *
            generalize dk[i']! = xi at *
            go_wp2_with fail
            go_quiet ((go_at_call 52; exact Calls.quiet_of_same (HLs1.out _)))
            rename_i nq
            go_wp2_with fail
            go_roundw
            case rel => exact ⟨i' + 1, by go_num, by omega, by omega, HS1.out.dN nq, Hst2.out⟩
            case measure => simp [intOf]; omega
        · have hijI : decide ((i' : Int) ≤ (j : Int)) = false := by simp; omega
          have hst : i2 = i' := by rw [← He.out]; exact scanUp_stop (Or.inl hij)
          clear hS he HSk Hi2 Hj2 He
          go_wp2_with fail
          go_quiet (fail)
          rename_i nq
          go_wp2_with fail
          go_meet
          exact ⟨by rw [hst], HS1.out.dN nq⟩
    case rest =>
      obtain ⟨rfl, hS⟩ := hcut
      have HS1 : Hid (Sw w0 wc blk off dk) := hS
      have Hi2' : Hid (scanUp (fun x => !ltInt dk[a]! x) dk j i = i2) := Hi2
      clear hS HSk Hi2
      go_upto_block 4 with fail
      go_cut [10] from 46 to 61 (fun s10 wx => s10 = .int .i64 j2 ∧ Sw w0 wx blk off dk)
      case first =>
        go_wp2_with fail
        go_loopw [10] (fun s10 wr => ∃ j' : Nat, s10 = .int .i64 j' ∧ j' ≤ j ∧ i2 ≤ j' + 2 ∧ Sw w0 wr blk off dk ∧ scanDown (fun x => ltInt dk[a]! x) dk i2 j' = j2) (fun s10 _ => (intOf s10).toNat)
        case atStart => exact ⟨j, rfl, Nat.le_refl _, gi2.2, HS1.out, Hj2.out⟩
        case round =>
          obtain ⟨j', rfl, g1, g2, hS, he⟩ := hrel
          have HS2 : Hid (Sw w0 wr blk off dk) := hS
          have He : Hid (scanDown (fun x => ltInt dk[a]! x) dk i2 j' = j2) := he
          by_cases hij : i2 ≤ j'
          · obtain ⟨k, rfl⟩ : ∃ k, j' = k + 1 := ⟨j' - 1, by omega⟩
            have hijI : (i2 : Int) ≤ (k : Int) + 1 := by omega
            have c1 := hS.hd a (by rw [Hds.out]; omega)
            have c2 := hS.hd (k + 1) (by rw [Hds.out]; omega)
            have Hgo : Hid (ltInt dk[a]! dk[k + 1]! = true → scanDown (fun x => ltInt dk[a]! x) dk i2 k = j2) := fun h => by rw [← He.out]; exact (scanDown_go hij h).symm
            have Hst : Hid (ltInt dk[a]! dk[k + 1]! = false → j2 = k + 1) := fun h => by rw [← He.out]; exact scanDown_stop (Or.inr h) (Or.inl (by omega))
            have HLs1 : Hid _ := HLs.out dk[a]! dk[k + 1]!
            have hjn : (k : Int) + 1 < (n : Int) := by omega
            have han : (a : Int) < (n : Int) := by omega
            clear hS he Hj2 He HS1
            by_cases hl : ltInt dk[a]! dk[k + 1]! = true
            · rw [hl] at HLs1
              have Hst2 : Hid _ := Hgo.out hl
              clear Hst Hgo hl
              generalize dk[a]! = xa at *
              generalize dk[k + 1]! = xi at *
              go_wp2_with fail
              go_quiet ((go_at_call 52; exact Calls.quiet_of_same (HLs1.out _)))
              rename_i nq
              go_wp2_with fail
              go_roundw
              case rel => exact ⟨k, by go_num, by omega, by omega, HS2.out.dN nq, Hst2.out⟩
              case measure => simp [intOf]
            · have hlf : ltInt dk[a]! dk[k + 1]! = false := by simpa using hl
              rw [hlf] at HLs1
              have hst := Hst.out hlf
              clear Hst Hgo hl hlf
              generalize dk[a]! = xa at *
              generalize dk[k + 1]! = xi at *
              go_wp2_with fail
              go_quiet ((go_at_call 52; exact Calls.quiet_of_same (HLs1.out _)))
              rename_i nq
              go_wp2_with fail
              go_meet
              exact ⟨by rw [hst], HS2.out.dN nq⟩
          · have hijI : decide ((i2 : Int) ≤ (j' : Int)) = false := by simp; omega
            have hst : j2 = j' := by rw [← He.out]; exact scanDown_stop (Or.inl hij) (Or.inr (by omega))
            clear hS he Hj2 He HS1
            go_wp2_with fail
            go_quiet (fail)
            rename_i nq
            go_wp2_with fail
            go_meet
            exact ⟨by rw [hst], HS2.out.dN nq⟩
      case rest =>
        obtain ⟨rfl, hS⟩ := hcut
        have HS2 : Hid (Sw w0 wc blk off dk) := hS
        by_cases hend : j2 < i2
        · have hI : (j2 : Int) < (i2 : Int) := by omega
          have hr : R = (i2, dk) := by rw [← Hq.out]; exact partEq_stop Hi2'.out Hj2.out hend
          have Hr : Hid _ := hr
          clear hS hr Hq
          go_wp2_with fail
          go_ret
          exact ⟨by rw [Hr.out]; rfl, by rw [Hr.out]; exact HS2.out⟩
        · have hI : decide ((j2 : Int) < (i2 : Int)) = false := by simp; omega
          have hr : partEqLoop ltInt a (i2 + 1) (j2 - 1) (swp dk i2 j2) = R := by rw [← Hq.out]; exact (partEq_go Hi2'.out Hj2.out hend (by omega)).symm
          have Hr : Hid _ := hr
          have c1 := hS.hd i2 (by rw [Hds.out]; omega)
          have c2 := hS.hd j2 (by rw [Hds.out]; omega)
          have fz := hS.fz
          have Hsw : Hid _ := hS.swp (i := i2) (j := j2) (by rw [Hds.out]; omega) (by rw [Hds.out]; omega)
          have b1 : (i2 : Int) < (n : Int) := by omega
          have b2 : (j2 : Int) < (n : Int) := by omega
          obtain ⟨v', hv'⟩ := cell_set_some (i := off + i2) (.int .u32 dk[j2]!) c2
          clear hS hr Hq HS1
          generalize dk[i2]! = xi at *
          generalize dk[j2]! = xj at *
          go_wp2_with fail
          go_region
          go_wp2_with fail
          go_roundw
          case rel => exact ⟨i2 + 1, j2 - 1, _, by go_num, by simp; omega, by omega, by omega, by omega, by rw [swp_size]; exact Hds.out, Hsw.out.same rfl rfl rfl rfl, Hr.out⟩
          case measure => simp [intOf]; omega
end Go.Proofs.Ybulkdbmw

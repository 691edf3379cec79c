import Derived.Test.YbulkdbmwPart
namespace Go.Proofs.Ybulkdbmw
open Go Go.RowKit Go.Sort

theorem partLoop_stop {a i j : Nat} {d : Array Int} {i2 j2 : Nat} (h1 : scanUp (fun x => ltInt x d[a]!) d j i = i2) (h2 : scanDown (fun x => !ltInt x d[a]!) d i2 j = j2) (h : j2 < i2) : partLoop ltInt a i j d = (j2, d) := by
  rw [partLoop, h1]
  show (match scanDown (fun x => !ltInt x d[a]!) d i2 j with | j2 => if i2 > j2 then (j2, d) else _) = _
  rw [h2]
  exact if_pos h
theorem partLoop_go {a i j : Nat} {d : Array Int} {i2 j2 : Nat} (h1 : scanUp (fun x => ltInt x d[a]!) d j i = i2) (h2 : scanDown (fun x => !ltInt x d[a]!) d i2 j = j2) (h : ¬ j2 < i2) (_hi : 1 ≤ i) : partLoop ltInt a i j d = partLoop ltInt a (i2 + 1) (j2 - 1) (swp d i2 j2) := by
  have g1 := scanUp_ge (fun x => ltInt x d[a]!) d j _ i (Nat.le_refl _)
  have g2 := scanDown_le (fun x => !ltInt x d[a]!) d i2 j
  rw [h1] at g1
  rw [h2] at g2
  conv => lhs; rw [partLoop, h1]
  show (match scanDown (fun x => !ltInt x d[a]!) d i2 j with | j2 => if i2 > j2 then (j2, d) else if _h : (j2 - 1) + 1 - (i2 + 1) < j + 1 - i then partLoop ltInt a (i2 + 1) (j2 - 1) (swp d i2 j2) else (j2, d)) = _
  rw [h2]
  show (if i2 > j2 then (j2, d) else if _h : (j2 - 1) + 1 - (i2 + 1) < j + 1 - i then partLoop ltInt a (i2 + 1) (j2 - 1) (swp d i2 j2) else (j2, d)) = _
  rw [if_neg h, dif_pos (by omega)]

theorem part_eq {d d1 : Array Int} {a b pivot i2 j2 : Nat} (hd : swp d a pivot = d1) (h1 : scanUp (fun x => ltInt x d1[a]!) d1 (b - 1) (a + 1) = i2) (h2 : scanDown (fun x => !ltInt x d1[a]!) d1 i2 (b - 1) = j2) :
    partition ltInt d a b pivot = if j2 < i2 then (j2, true, swp d1 j2 a) else ((partLoop ltInt a (i2 + 1) (j2 - 1) (swp d1 i2 j2)).1, false, swp (partLoop ltInt a (i2 + 1) (j2 - 1) (swp d1 i2 j2)).2 (partLoop ltInt a (i2 + 1) (j2 - 1) (swp d1 i2 j2)).1 a) := by
  unfold partition
  simp only [hd, h1, h2]

set_option maxHeartbeats 6400000 in
set_option maxRecDepth 100000 in
theorem part_u (blk off cap a b pivot : Nat) (d : Array Int) (w0 w : World) (hS : Sw w0 w blk off d) (hap : a ≤ pivot) (hpb : pivot < b) (hb : b ≤ d.size) (hsz : d.size < 1000000) :
    Calls Yba.prog 54 #[.slice (some ⟨blk, off, none⟩) d.size cap, .int .i64 a, .int .i64 b, .int .i64 pivot] w fun e w' => e = .returned (.tuple #[.int .i64 (partition ltInt d a b pivot).1, .bool (partition ltInt d a b pivot).2.1]) ∧ Sw w0 w' blk off (partition ltInt d a b pivot).2.2 := by
  have c1 := hS.hd a (by omega)
  have c2 := hS.hd pivot (by omega)
  have fz := hS.fz
  have Hsw : Hid _ := hS.swp (i := a) (j := pivot) (by omega) (by omega)
  have Hds : Hid ((swp d a pivot).size = d.size) := swp_size _ _ _
  have HLs : Hid (∀ (x y : Int) (wz : World), Calls Yba.prog 52 #[.int .u32 x, .int .u32 y] wz fun e w' => e = .returned (.bool (ltInt x y)) ∧ w' = wz) := fun x y wz => less_u x y wz
  obtain ⟨v', hv'⟩ := cell_set_some (i := off + a) (.int .u32 d[pivot]!) c2
  obtain ⟨dk, hdk⟩ : ∃ dk, swp d a pivot = dk := ⟨_, rfl⟩
  obtain ⟨i2, hi2⟩ : ∃ i2, scanUp (fun x => ltInt x dk[a]!) dk (b - 1) (a + 1) = i2 := ⟨_, rfl⟩
  obtain ⟨j2, hj2⟩ : ∃ j2, scanDown (fun x => !ltInt x dk[a]!) dk i2 (b - 1) = j2 := ⟨_, rfl⟩
  have Hpe : Hid _ := part_eq hdk hi2 hj2
  rw [hdk] at Hsw Hds
  generalize partition ltInt d a b pivot = R at *
  have gu := scanUp_ge (fun x => ltInt x dk[a]!) dk (b - 1) _ (a + 1) (Nat.le_refl _)
  have gd := scanDown_le (fun x => !ltInt x dk[a]!) dk i2 (b - 1)
  rw [hi2] at gu
  rw [hj2] at gd
  obtain ⟨jb, hjb⟩ : ∃ jb, b = jb + 1 := ⟨b - 1, by omega⟩
  subst hjb
  rw [Nat.add_sub_cancel] at hi2 hj2 gu gd
  have gi2 : a + 1 ≤ i2 ∧ i2 ≤ jb + 2 := by have := gu.2 (by omega); omega
  have gj2 : j2 ≤ jb ∧ i2 ≤ j2 + 1 := by have := gd.2 (by have := gu.2 (by omega); omega) (by omega); omega
  have Hi2 : Hid (scanUp (fun x => ltInt x dk[a]!) dk jb (a + 1) = i2) := hi2
  have Hj2 : Hid (scanDown (fun x => !ltInt x dk[a]!) dk i2 jb = j2) := hj2
  clear hS hdk hi2 hj2 gu gd
  generalize hn : d.size = n at *
  generalize d[a]! = x at *
  generalize d[pivot]! = y at *
  clear hn
  go_enter Yba.func54, Yba.ntmps54
  go_wp2_with fail
  go_region
  have HSk : Hid (Sw w0 _ blk off dk) := Hsw
  clear Hsw hv' c1 c2 fz
  go_upto_block 0 with fail
  go_cut [10] from 30 to 45 (fun s9 wx => s9 = .int .i64 i2 ∧ Sw w0 wx blk off dk)
  case first =>
    go_wp2_with fail
    go_loopw [10] (fun s9 wr => ∃ i' : Nat, s9 = .int .i64 i' ∧ (a + 1) ≤ i' ∧ i' ≤ jb + 2 ∧ Sw w0 wr blk off dk ∧ scanUp (fun x => ltInt x dk[a]!) dk jb i' = i2) (fun s9 _ => ((jb : Int) + 3 - intOf s9).toNat)
    case atStart => exact ⟨(a + 1), by go_num, Nat.le_refl _, by omega, HSk.out.same rfl rfl rfl rfl, Hi2.out⟩
    case round =>
      obtain ⟨i', rfl, g1, g2, hS, he⟩ := hrel
      have HS1 : Hid (Sw w0 wr blk off dk) := hS
      have He : Hid (scanUp (fun x => ltInt x dk[a]!) dk jb i' = i2) := he
      by_cases hij : i' ≤ jb
      · have hijI : (i' : Int) ≤ (jb : Int) := by omega
        have c1 := hS.hd a (by rw [Hds.out]; omega)
        have c2 := hS.hd i' (by rw [Hds.out]; omega)
        have Hgo : Hid (ltInt dk[i']! dk[a]! = true → scanUp (fun x => ltInt x dk[a]!) dk jb (i' + 1) = i2) := fun h => by rw [← He.out]; exact (scanUp_go hij h).symm
        have Hst : Hid (ltInt dk[i']! dk[a]! = false → i2 = i') := fun h => by rw [← He.out]; exact scanUp_stop (Or.inr h)
        have HLs1 : Hid _ := HLs.out dk[i']! dk[a]!
        have hjn : (i' : Int) < (n : Int) := by omega
        have han : (a : Int) < (n : Int) := by omega
        clear hS he HSk Hi2 Hj2 He
        by_cases hl : ltInt dk[i']! dk[a]! = true
        · rw [hl] at HLs1
          have Hst2 : Hid _ := Hgo.out hl
          clear Hst Hgo hl
          generalize dk[a]! = xa at *
          generalize dk[i']! = xi at *
          go_wp2_with fail
          go_quiet ((go_at_call 52; exact Calls.quiet_of_same (HLs1.out _)))
          rename_i nq
          go_wp2_with fail
          go_roundw
          case rel => exact ⟨i' + 1, by go_num, by omega, by omega, HS1.out.dN nq, Hst2.out⟩
          case measure => simp [intOf]; omega
        · have hlf : ltInt dk[i']! dk[a]! = false := by simpa using hl
          rw [hlf] at HLs1
          have hst := Hst.out hlf
          clear Hst Hgo hl hlf
          generalize dk[a]! = xa at *
          generalize dk[i']! = xi at *
          go_wp2_with fail
          go_quiet ((go_at_call 52; exact Calls.quiet_of_same (HLs1.out _)))
          rename_i nq
          go_wp2_with fail
          go_meet
          exact ⟨by rw [hst], HS1.out.dN nq⟩
      · have hijI : decide ((i' : Int) ≤ (jb : Int)) = false := by simp; omega
        have hst : i2 = i' := by rw [← He.out]; exact scanUp_stop (Or.inl hij)
        clear hS he HSk Hi2 Hj2 He
        go_wp2_with fail
        go_quiet (fail)
        rename_i nq
        go_wp2_with fail
        go_meet
        exact ⟨by rw [hst], HS1.out.dN nq⟩
  case rest =>
    obtain ⟨rfl, hS⟩ := hcut
    have HS1 : Hid (Sw w0 wc blk off dk) := hS
    clear hS HSk Hi2
    go_upto_block 2 with fail
    go_cut [11] from 46 to 62 (fun s10 wx => s10 = .int .i64 j2 ∧ Sw w0 wx blk off dk)
    case first =>
      go_wp2_with fail
      go_loopw [11] (fun s10 wr => ∃ j' : Nat, s10 = .int .i64 j' ∧ j' ≤ jb ∧ i2 ≤ j' + 2 ∧ Sw w0 wr blk off dk ∧ scanDown (fun x => !ltInt x dk[a]!) dk i2 j' = j2) (fun s10 _ => (intOf s10).toNat)
      case atStart => exact ⟨jb, by go_num, Nat.le_refl _, gi2.2, HS1.out, Hj2.out⟩
      case round =>
        obtain ⟨j', rfl, g1, g2, hS, he⟩ := hrel
        have HS2 : Hid (Sw w0 wr blk off dk) := hS
        have He : Hid (scanDown (fun x => !ltInt x dk[a]!) dk i2 j' = j2) := he
        by_cases hij : i2 ≤ j'
        · obtain ⟨k, rfl⟩ : ∃ k, j' = k + 1 := ⟨j' - 1, by omega⟩
          have hijI : (i2 : Int) ≤ (k : Int) + 1 := by omega
          have c1 := hS.hd a (by rw [Hds.out]; omega)
          have c2 := hS.hd (k + 1) (by rw [Hds.out]; omega)
          have Hgo : Hid (ltInt dk[k + 1]! dk[a]! = false → scanDown (fun x => !ltInt x dk[a]!) dk i2 k = j2) := fun h => by rw [← He.out]; exact (scanDown_go hij (by simp [h])).symm
          have Hst : Hid (ltInt dk[k + 1]! dk[a]! = true → j2 = k + 1) := fun h => by rw [← He.out]; exact scanDown_stop (Or.inr (by simp [h])) (Or.inl (by omega))
          have HLs1 : Hid _ := HLs.out dk[k + 1]! dk[a]!
          have hjn : (k : Int) + 1 < (n : Int) := by omega
          have han : (a : Int) < (n : Int) := by omega
          clear hS he Hj2 He HS1
          by_cases hl : ltInt dk[k + 1]! dk[a]! = true
          · rw [hl] at HLs1
            have hst := Hst.out hl
            clear Hst Hgo hl
            generalize dk[a]! = xa at *
            generalize dk[k + 1]! = xi at *
            go_wp2_with fail
            go_quiet ((go_at_call 52; exact Calls.quiet_of_same (HLs1.out _)))
            rename_i nq
            go_wp2_with fail
            go_meet
            exact ⟨by rw [hst], HS2.out.dN nq⟩
          · have hlf : ltInt dk[k + 1]! dk[a]! = false := by simpa using hl
            rw [hlf] at HLs1
            have Hst2 : Hid _ := Hgo.out hlf
            clear Hst Hgo hl hlf
            generalize dk[a]! = xa at *
            generalize dk[k + 1]! = xi at *
            go_wp2_with fail
            go_quiet ((go_at_call 52; exact Calls.quiet_of_same (HLs1.out _)))
            rename_i nq
            go_wp2_with fail
            go_roundw
            case rel => exact ⟨k, by go_num, by omega, by omega, HS2.out.dN nq, Hst2.out⟩
            case measure => simp [intOf]
        · have hijI : decide ((i2 : Int) ≤ (j' : Int)) = false := by simp; omega
          have hst : j2 = j' := by rw [← He.out]; exact scanDown_stop (Or.inl hij) (Or.inr (by omega))
          clear hS he Hj2 He HS1
          go_wp2_with fail
          go_quiet (fail)
          rename_i nq
          go_wp2_with fail
          go_meet
          exact ⟨by rw [hst], HS2.out.dN nq⟩
    case rest =>
      obtain ⟨rfl, hS⟩ := hcut
      clear HS1 Hj2
      have HS2 : Hid (Sw w0 wc blk off dk) := hS
      have c1 := hS.hd a (by rw [Hds.out]; omega)
      have c2 := hS.hd j2 (by rw [Hds.out]; omega)
      have fz := hS.fz
      have b1 : (a : Int) < (n : Int) := by omega
      have b2 : (j2 : Int) < (n : Int) := by omega
      by_cases hend : j2 < i2
      · have hI : (j2 : Int) < (i2 : Int) := by omega
        have Hsw : Hid _ := hS.swp (i := j2) (j := a) (by rw [Hds.out]; omega) (by rw [Hds.out]; omega)
        have hr := Hpe.out
        rw [if_pos hend] at hr
        have Hr : Hid _ := hr
        obtain ⟨v', hv'⟩ := cell_set_some (i := off + j2) (.int .u32 dk[a]!) c1
        clear hS hr Hpe HS2
        generalize dk[a]! = xa at *
        generalize dk[j2]! = xj at *
        go_wp2_with fail
        go_region
        go_wp2_with fail
        go_ret2
        exact ⟨by rw [Hr.out]; rfl, by rw [Hr.out]; exact Hsw.out.same rfl rfl rfl rfl⟩
      · have hI : decide ((j2 : Int) < (i2 : Int)) = false := by simp; omega
        have c3 := hS.hd i2 (by rw [Hds.out]; omega)
        have b3 : (i2 : Int) < (n : Int) := by omega
        have Hsw : Hid _ := hS.swp (i := i2) (j := j2) (by rw [Hds.out]; omega) (by rw [Hds.out]; omega)
        have hr := Hpe.out
        rw [if_neg hend] at hr
        have Hr : Hid _ := hr
        have Hsz : Hid ((swp dk i2 j2).size = n) := (swp_size _ _ _).trans Hds.out
        obtain ⟨v', hv'⟩ := cell_set_some (i := off + i2) (.int .u32 dk[j2]!) c2
        clear hS hr Hpe HS2 Hds c1
        generalize swp dk i2 j2 = d2 at *
        obtain ⟨PL, hPL⟩ : ∃ PL, partLoop ltInt a (i2 + 1) (j2 - 1) d2 = PL := ⟨_, rfl⟩
        rw [hPL] at Hr
        have HPL : Hid _ := hPL
        clear hPL
        generalize dk[i2]! = xi at *
        generalize dk[j2]! = xj at *
        clear dk
        go_wp2_with fail
        go_region
        go_wp2_with fail
        clear hv' c2 c3 fz
        go_loopw [10, 11] (fun s10 s11 wr => ∃ (i j : Nat) (dk : Array Int), s10 = .int .i64 i ∧ s11 = .int .i64 j ∧ a + 2 ≤ i ∧ a ≤ j ∧ i ≤ j + 2 ∧ j < n ∧ dk.size = n ∧ Sw w0 wr blk off dk ∧ partLoop ltInt a i j dk = PL) (fun s10 s11 _ => (intOf s11 + 3 - intOf s10).toNat)
        case atStart => exact ⟨i2 + 1, j2 - 1, d2, by go_num, by simp; omega, by omega, by omega, by omega, by omega, Hsz.out, Hsw.out.same rfl rfl rfl rfl, HPL.out⟩
        case round =>
          obtain ⟨i, j, dk, rfl, rfl, h1, h1', h2, h3, hds, hS, heq⟩ := hrel
          have HSk : Hid (Sw w0 wr blk off dk) := hS
          have Hq : Hid (partLoop ltInt a i j dk = PL) := heq
          have Hds : Hid (dk.size = n) := hds
          obtain ⟨i3, hi3⟩ : ∃ i3, scanUp (fun x => ltInt x dk[a]!) dk j i = i3 := ⟨_, rfl⟩
          obtain ⟨j3, hj3⟩ : ∃ j3, scanDown (fun x => !ltInt x dk[a]!) dk i3 j = j3 := ⟨_, rfl⟩
          have gu := scanUp_ge (fun x => ltInt x dk[a]!) dk j _ i (Nat.le_refl _)
          have gd := scanDown_le (fun x => !ltInt x dk[a]!) dk i3 j
          rw [hi3] at gu
          rw [hj3] at gd
          have gi2 : i ≤ i3 ∧ i3 ≤ j + 2 := by
            by_cases hx : i ≤ j + 1
            · have := gu.2 hx; omega
            · have : i3 = i := by rw [← hi3]; exact scanUp_stop (Or.inl (by omega))
              omega
          have gj2 : j3 ≤ j ∧ i3 ≤ j3 + 2 := by
            by_cases hx : i3 ≤ j + 1
            · have := gd.2 hx (by omega); omega
            · have : j3 = j := by rw [← hj3]; exact scanDown_stop (Or.inl (by omega)) (Or.inr (by omega))
              omega
          have Hi2 : Hid (scanUp (fun x => ltInt x dk[a]!) dk j i = i3) := hi3
          have Hj2 : Hid (scanDown (fun x => !ltInt x dk[a]!) dk i3 j = j3) := hj3
          have Hi3 : Hid (scanUp (fun x => ltInt x dk[a]!) dk j i = i3) := hi3
          have Hj3 : Hid (scanDown (fun x => !ltInt x dk[a]!) dk i3 j = j3) := hj3
          clear hS heq hds Hsw HPL hi3 hj3 gu gd
          go_upto_block 6 with fail
          go_cut [10] from 99 to 114 (fun s9 wx => s9 = .int .i64 i3 ∧ Sw w0 wx blk off dk)
          case first =>
            go_wp2_with fail
            go_loopw [10] (fun s9 wr => ∃ i' : Nat, s9 = .int .i64 i' ∧ i ≤ i' ∧ i' ≤ j + 2 ∧ Sw w0 wr blk off dk ∧ scanUp (fun x => ltInt x dk[a]!) dk j i' = i3) (fun s9 _ => ((j : Int) + 3 - intOf s9).toNat)
            case atStart => exact ⟨i, rfl, Nat.le_refl _, h2, HSk.out, Hi2.out⟩
            case round =>
              obtain ⟨i', rfl, g1, g2, hS, he⟩ := hrel
              have HS1 : Hid (Sw w0 wr blk off dk) := hS
              have He : Hid (scanUp (fun x => ltInt x dk[a]!) dk j i' = i3) := he
              by_cases hij : i' ≤ j
              · have hijI : (i' : Int) ≤ (j : Int) := by omega
                have c1 := hS.hd a (by rw [Hds.out]; omega)
                have c2 := hS.hd i' (by rw [Hds.out]; omega)
                have Hgo : Hid (ltInt dk[i']! dk[a]! = true → scanUp (fun x => ltInt x dk[a]!) dk j (i' + 1) = i3) := fun h => by rw [← He.out]; exact (scanUp_go hij h).symm
                have Hst : Hid (ltInt dk[i']! dk[a]! = false → i3 = i') := fun h => by rw [← He.out]; exact scanUp_stop (Or.inr h)
                have HLs1 : Hid _ := HLs.out dk[i']! dk[a]!
                have hjn : (i' : Int) < (n : Int) := by omega
                have han : (a : Int) < (n : Int) := by omega
                clear hS he HSk Hi2 Hj2 He
                by_cases hl : ltInt dk[i']! dk[a]! = true
                · rw [hl] at HLs1
                  have Hst2 : Hid _ := Hgo.out hl
                  clear Hst Hgo hl
                  generalize dk[a]! = xa at *
                  generalize dk[i']! = xi at *
                  go_wp2_with fail
                  go_quiet ((go_at_call 52; exact Calls.quiet_of_same (HLs1.out _)))
                  rename_i nq
                  go_wp2_with fail
                  go_roundw
                  case rel => exact ⟨i' + 1, by go_num, by omega, by omega, HS1.out.dN nq, Hst2.out⟩
                  case measure => simp [intOf]; omega
                · have hlf : ltInt dk[i']! dk[a]! = false := by simpa using hl
                  rw [hlf] at HLs1
                  have hst := Hst.out hlf
                  clear Hst Hgo hl hlf
                  generalize dk[a]! = xa at *
                  generalize dk[i']! = xi at *
                  go_wp2_with fail
                  go_quiet ((go_at_call 52; exact Calls.quiet_of_same (HLs1.out _)))
                  rename_i nq
                  go_wp2_with fail
                  go_meet
                  exact ⟨by rw [hst], HS1.out.dN nq⟩
              · have hijI : decide ((i' : Int) ≤ (j : Int)) = false := by simp; omega
                have hst : i3 = i' := by rw [← He.out]; exact scanUp_stop (Or.inl hij)
                clear hS he HSk Hi2 Hj2 He
                go_wp2_with fail
                go_quiet (fail)
                rename_i nq
                go_wp2_with fail
                go_meet
                exact ⟨by rw [hst], HS1.out.dN nq⟩
          case rest =>
            obtain ⟨rfl, hS⟩ := hcut
            have HS1 : Hid (Sw w0 wc blk off dk) := hS
            clear hS HSk Hi2
            go_upto_block 8 with fail
            go_cut [11] from 115 to 131 (fun s10 wx => s10 = .int .i64 j3 ∧ Sw w0 wx blk off dk)
            case first =>
              go_wp2_with fail
              go_loopw [11] (fun s10 wr => ∃ j' : Nat, s10 = .int .i64 j' ∧ j' ≤ j ∧ i3 ≤ j' + 2 ∧ Sw w0 wr blk off dk ∧ scanDown (fun x => !ltInt x dk[a]!) dk i3 j' = j3) (fun s10 _ => (intOf s10).toNat)
              case atStart => exact ⟨j, rfl, Nat.le_refl _, gi2.2, HS1.out, Hj2.out⟩
              case round =>
                obtain ⟨j', rfl, g1, g2, hS, he⟩ := hrel
                have HS2 : Hid (Sw w0 wr blk off dk) := hS
                have He : Hid (scanDown (fun x => !ltInt x dk[a]!) dk i3 j' = j3) := he
                by_cases hij : i3 ≤ j'
                · obtain ⟨k, rfl⟩ : ∃ k, j' = k + 1 := ⟨j' - 1, by omega⟩
                  have hijI : (i3 : Int) ≤ (k : Int) + 1 := by omega
                  have c1 := hS.hd a (by rw [Hds.out]; omega)
                  have c2 := hS.hd (k + 1) (by rw [Hds.out]; omega)
                  have Hgo : Hid (ltInt dk[k + 1]! dk[a]! = false → scanDown (fun x => !ltInt x dk[a]!) dk i3 k = j3) := fun h => by rw [← He.out]; exact (scanDown_go hij (by simp [h])).symm
                  have Hst : Hid (ltInt dk[k + 1]! dk[a]! = true → j3 = k + 1) := fun h => by rw [← He.out]; exact scanDown_stop (Or.inr (by simp [h])) (Or.inl (by omega))
                  have HLs1 : Hid _ := HLs.out dk[k + 1]! dk[a]!
                  have hjn : (k : Int) + 1 < (n : Int) := by omega
                  have han : (a : Int) < (n : Int) := by omega
                  clear hS he Hj2 He HS1
                  by_cases hl : ltInt dk[k + 1]! dk[a]! = true
                  · rw [hl] at HLs1
                    have hst := Hst.out hl
                    clear Hst Hgo hl
                    generalize dk[a]! = xa at *
                    generalize dk[k + 1]! = xi at *
                    go_wp2_with fail
                    go_quiet ((go_at_call 52; exact Calls.quiet_of_same (HLs1.out _)))
                    rename_i nq
                    go_wp2_with fail
                    go_meet
                    exact ⟨by rw [hst], HS2.out.dN nq⟩
                  · have hlf : ltInt dk[k + 1]! dk[a]! = false := by simpa using hl
                    rw [hlf] at HLs1
                    have Hst2 : Hid _ := Hgo.out hlf
                    clear Hst Hgo hl hlf
                    generalize dk[a]! = xa at *
                    generalize dk[k + 1]! = xi at *
                    go_wp2_with fail
                    go_quiet ((go_at_call 52; exact Calls.quiet_of_same (HLs1.out _)))
                    rename_i nq
                    go_wp2_with fail
                    go_roundw
                    case rel => exact ⟨k, by go_num, by omega, by omega, HS2.out.dN nq, Hst2.out⟩
                    case measure => simp [intOf]
                · have hijI : decide ((i3 : Int) ≤ (j' : Int)) = false := by simp; omega
                  have hst : j3 = j' := by rw [← He.out]; exact scanDown_stop (Or.inl hij) (Or.inr (by omega))
                  clear hS he Hj2 He HS1
                  go_wp2_with fail
                  go_quiet (fail)
                  rename_i nq
                  go_wp2_with fail
                  go_meet
                  exact ⟨by rw [hst], HS2.out.dN nq⟩
            case rest =>
              obtain ⟨rfl, hS⟩ := hcut
              clear HS1 Hj2
              have HS2 : Hid (Sw w0 wc blk off dk) := hS
              have c2 := hS.hd j3 (by rw [Hds.out]; omega)
              have fz := hS.fz
              have b4 : (j3 : Int) < (n : Int) := by omega
              by_cases hend3 : j3 < i3
              · have hI3 : (j3 : Int) < (i3 : Int) := by omega
                have hpl : PL = (j3, dk) := by rw [← Hq.out]; exact partLoop_stop Hi3.out Hj3.out hend3
                have Hpl : Hid _ := hpl
                have c1 := hS.hd a (by rw [Hds.out]; omega)
                have Hsw : Hid _ := hS.swp (i := j3) (j := a) (by rw [Hds.out]; omega) (by rw [Hds.out]; omega)
                obtain ⟨v', hv'⟩ := cell_set_some (i := off + j3) (.int .u32 dk[a]!) c1
                clear hS hpl Hq HS2 Hi3 Hj3
                generalize dk[a]! = xa at *
                generalize dk[j3]! = xj at *
                go_wp2_with fail
                go_region
                go_wp2_with fail
                go_ret2
                exact ⟨by rw [Hr.out, Hpl.out]; rfl, by rw [Hr.out, Hpl.out]; exact Hsw.out.same rfl rfl rfl rfl⟩
              · have hI3 : decide ((j3 : Int) < (i3 : Int)) = false := by simp; omega
                have hr3 : partLoop ltInt a (i3 + 1) (j3 - 1) (swp dk i3 j3) = PL := by rw [← Hq.out]; exact (partLoop_go Hi3.out Hj3.out hend3 (by omega)).symm
                have Hr3 : Hid _ := hr3
                have c1 := hS.hd i3 (by rw [Hds.out]; omega)
                have b5 : (i3 : Int) < (n : Int) := by omega
                have Hsw : Hid _ := hS.swp (i := i3) (j := j3) (by rw [Hds.out]; omega) (by rw [Hds.out]; omega)
                obtain ⟨v', hv'⟩ := cell_set_some (i := off + i3) (.int .u32 dk[j3]!) c2
                clear hS hr3 Hq HS2 Hi3 Hj3
                generalize dk[i3]! = xa at *
                generalize dk[j3]! = xb at *
                go_wp2_with fail
                go_region
                go_wp2_with fail
                go_roundw
                case rel => exact ⟨i3 + 1, j3 - 1, _, by go_num, by simp; omega, by omega, by omega, by omega, by omega, by rw [swp_size]; exact Hds.out, Hsw.out.same rfl rfl rfl rfl, Hr3.out⟩
                case measure => simp [intOf]; omega
end Go.Proofs.Ybulkdbmw

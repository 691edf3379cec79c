import Derived.Test.YbulkdbgyBits
namespace Go.Proofs.Ybulkdbgy
open Go.RowKit

theorem nameB_dig {c : Int} (h1 : 48 ≤ c) (h2 : c ≤ 57) : nameB c = true := by simp [nameB, h1, h2]
theorem nameB_und {c : Int} (h : (!(c == 95)) = false) : nameB c = true := by
  have h1 : c = 95 := by simpa using h
  simp [nameB, h1]
theorem nameB_no {c : Int} (hl : letB c = false) (h : (!(c == 95)) = true) (h3 : c < 48 ∨ 57 < c) : nameB c = false := by
  have h1 : ¬ c = 95 := by simpa using h
  simp [nameB, hl, h1]; omega

theorem upTo_succ {t : ByteArray} {k : Nat} (h : upTo t k) (hk : ∀ h : k < t.size, nameB (t[k].toNat : Int) = true) : upTo t (k + 1) := fun j h1 h2 hj => by
  by_cases e : j = k
  · subst e; exact hk hj
  · exact h j h1 (by omega) hj

theorem mid_size (s : ByteArray) (h : 2 < s.size) : (s.extract 1 (s.size - 1)).size = s.size - 2 := by simp [ByteArray.size_extract]; omega

set_option maxHeartbeats 800000 in
/-- The part of 'zzs5133bplace' behind the two brackets. -/
theorem zplace_in (s : ByteArray) (w : World) (hs : s.size ≤ maxLen) (h2 : 2 < s.size) (c0 : (s[0].toNat : Int) = 60) (c1 : (s[s.size - 1].toNat : Int) = 62) :
    Calls Yba.prog 6 #[.string s] w fun e w' => e = .returned (.bool (phL s.data.toList)) ∧ w' = w := by
  rw [phL_eq s h2, c0, c1]
  have hts := mid_size s h2
  have hp : 0 < (s.extract 1 (s.size - 1)).size := by omega
  have HP : Hid ((((60 : Int) == 60) && ((62 : Int) == 62) && phNameL (s.extract 1 (s.size - 1)).data.toList) = ((s.extract 1 (s.size - 1)).toList == [42] || (letB ((s.extract 1 (s.size - 1))[0].toNat : Int) && ((s.extract 1 (s.size - 1)).data.toList.drop 1).all (fun d => nameB (d.toNat : Int))))) := by
    show (true && true && phNameL _) = _
    rw [phNameL, nameL_some _ hp, ByteArray.toList_eq]; rfl
  rw [HP.out]
  clear HP
  unfold maxLen at hs
  have h3 : decide ((s.size : Int) < 3) = false := by simp; omega
  generalize hall : ((s.extract 1 (s.size - 1)).data.toList.drop 1).all (fun d => nameB (d.toNat : Int)) = AL
  have Hall : Hid (((s.extract 1 (s.size - 1)).data.toList.drop 1).all (fun d => nameB (d.toNat : Int)) = AL) := hall
  clear hall
  cases h42 : ((s.extract 1 (s.size - 1)).toList == [42])
  · cases hl : letB ((s.extract 1 (s.size - 1))[0].toNat : Int)
    · go_enter Yba.func6, Yba.ntmps6
      go_wp2_with (go_at_call 10; refine (zletter_any _ _).mono ?_; rintro e w' ⟨rfl, rfl⟩; rw [hl])
      go_ret
      exact ⟨rfl, rfl⟩
    · go_enter Yba.func6, Yba.ntmps6
      go_wp2_with (go_at_call 10; refine (zletter_any _ _).mono ?_; rintro e w' ⟨rfl, rfl⟩; rw [hl])
      have hbnd : (s.extract 1 (s.size - 1)).size ≤ 9223372036854775806 := by omega
      have hpos : 1 ≤ (s.extract 1 (s.size - 1)).size := by omega
      generalize ((s.extract 1 (s.size - 1))[0].toNat : Int) = z0 at *
      clear hl h42 hp hts
      generalize s.extract 1 (s.size - 1) = t at *
      clear h3 c0 c1 h2 hs
      go_loop [5, 6] (fun i _ => ∃ k : Nat, 1 ≤ k ∧ k ≤ t.size ∧ i = .int .i64 k ∧ Hid (upTo t k)) (fun i _ => t.size - (intOf i).toNat)
      case atStart => exact ⟨1, by omega, by omega, rfl, fun j h1 h2 _ => by omega⟩
      case round =>
        obtain ⟨k, h1k, hk, rfl, hup⟩ := hrel
        by_cases hlt : k < t.size
        · cases hl2 : letB (t[k].toNat : Int)
          · go_wp2_with (go_at_call 10; refine (zletter_any _ _).mono ?_; rintro e w' ⟨rfl, rfl⟩; rw [hl2])
            all_goals first
              | (go_round
                 case rel => exact ⟨k + 1, by omega, by omega, by go_num, upTo_succ hup.out (fun _ => by first | exact nameB_dig (by assumption) (by assumption) | exact nameB_und (by assumption))⟩
                 case measure => simp [intOf]; omega)
              | (go_ret
                 exact ⟨ret_bool (by rw [← Hall.out, not_all t k h1k hlt (nameB_no hl2 (by assumption) (by omega))]), rfl⟩)
          · have hup' : Hid (upTo t (k + 1)) := upTo_succ hup.out (fun _ => nameB_l hl2)
            go_wp2_with (go_at_call 10; refine (zletter_any _ _).mono ?_; rintro e w' ⟨rfl, rfl⟩; rw [hl2])
            go_round
            case rel => exact ⟨k + 1, by omega, by omega, by go_num, hup'⟩
            case measure => simp [intOf]; omega
        · have hks : k = t.size := by omega
          have Hal : Hid (AL = true) := by
            show AL = true
            rw [← Hall.out]; rw [hks] at hup; exact upTo_all _ hup.out
          clear hks
          go_wp2
          go_ret
          exact ⟨ret_bool (by rw [Hal.out]), rfl⟩
  · go_enter Yba.func6, Yba.ntmps6
    go_wp2
    go_ret
    exact ⟨rfl, rfl⟩

set_option maxHeartbeats 400000 in
theorem zplace_any (s : ByteArray) (w : World) (hs : s.size ≤ maxLen) :
    Calls Yba.prog 6 #[.string s] w fun e w' => e = .returned (.bool (phL s.data.toList)) ∧ w' = w := by
  by_cases h2 : 2 < s.size
  · by_cases c0 : (s[0].toNat : Int) = 60
    · by_cases c1 : (s[s.size - 1].toNat : Int) = 62
      · exact zplace_in s w hs h2 c0 c1
      · rw [phL_eq s h2, beq_false_of_ne c1]
        have d1 : ((s[s.size - 1].toNat : Int) != 62) = true := by simpa using c1
        unfold maxLen at hs
        have h3 : decide ((s.size : Int) < 3) = false := by simp; omega
        clear c1
        go_enter Yba.func6, Yba.ntmps6
        go_wp2
        go_ret
        exact ⟨by simp, rfl⟩
    · rw [phL_eq s h2, beq_false_of_ne c0]
      have d0 : ((s[0].toNat : Int) != 60) = true := by simpa using c0
      unfold maxLen at hs
      have h3 : decide ((s.size : Int) < 3) = false := by simp; omega
      clear c0
      go_enter Yba.func6, Yba.ntmps6
      go_wp2
      go_ret
      exact ⟨by simp, rfl⟩
  · rw [phL_short s h2]
    unfold maxLen at hs
    have h3 : decide ((s.size : Int) < 3) = true := by simp; omega
    go_enter Yba.func6, Yba.ntmps6
    go_wp2
    go_ret
    exact ⟨rfl, rfl⟩
end Go.Proofs.Ybulkdbgy

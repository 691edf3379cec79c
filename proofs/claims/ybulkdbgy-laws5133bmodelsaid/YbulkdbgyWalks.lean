import Derived.Test.YbulkdbgyRows
import Derived.Test.YbulkdbgyPlain
import Derived.WalkKit
import Derived.ProofKit
import Derived.WalkSpells
namespace Go.Proofs.Ybulkdbgy
open Go.RowKit

theorem isLetter_any (c : Int) (w : World) : Calls Yba.prog 13 #[.int .u8 c] w fun e w' => e = .returned (.bool (letB c)) ∧ w' = w := by
  go_enter Yba.func13, Yba.ntmps13
  go_wp2
  all_goals go_ret
  all_goals exact ⟨ret_bool (by rw [Bool.eq_iff_iff]; simp [letB]; try omega), rfl⟩

theorem zletter_any (c : Int) (w : World) : Calls Yba.prog 10 #[.int .u8 c] w fun e w' => e = .returned (.bool (letB c)) ∧ w' = w := by
  go_enter Yba.func10, Yba.ntmps10
  go_wp2
  all_goals go_ret
  all_goals exact ⟨ret_bool (by rw [Bool.eq_iff_iff]; simp [letB]; try omega), rfl⟩

theorem nameB_l {c : Int} (h : letB c = true) : nameB c = true := by simp [nameB, h]
theorem nameB_n {c : Int} (h : letB c = false) : nameB c = (decide (48 ≤ c ∧ c ≤ 57) || decide (c = 95)) := by simp [nameB, h]

theorem isNameByte_any (c : Int) (w : World) : Calls Yba.prog 14 #[.int .u8 c] w fun e w' => e = .returned (.bool (nameB c)) ∧ w' = w := by
  cases hl : letB c
  · rw [nameB_n hl]
    go_enter Yba.func14, Yba.ntmps14
    go_wp2_with (go_at_call 13; refine (isLetter_any _ _).mono ?_; rintro e w' ⟨rfl, rfl⟩; rw [hl])
    all_goals go_ret
    all_goals exact ⟨ret_bool (by first | rfl | (rw [Bool.eq_iff_iff]; simp; done) | (rw [Bool.eq_iff_iff]; simp; omega)), rfl⟩
  · rw [nameB_l hl]
    go_enter Yba.func14, Yba.ntmps14
    go_wp2_with (go_at_call 13; refine (isLetter_any _ _).mono ?_; rintro e w' ⟨rfl, rfl⟩; rw [hl])
    all_goals go_ret
    all_goals exact ⟨rfl, rfl⟩

set_option maxHeartbeats 400000 in
theorem hash_any (s : ByteArray) (w : World) (hs : s.size ≤ maxLen) : Calls Yba.prog 9 #[.string s] w fun e w' => e = .returned (.int .u64 (hashL s.data.toList)) ∧ w' = w := by
  unfold maxLen at hs
  go_enter Yba.func9, Yba.ntmps9
  go_wp2
  go_loop [3, 4, 7] (fun n _ i => ∃ k : Nat, k ≤ s.size ∧ i = .int .i64 k ∧ n = .int .u64 (hashL (s.data.toList.take k))) (fun _ _ i => s.size - (intOf i).toNat)
  case atStart => exact ⟨0, Nat.zero_le _, rfl, rfl⟩
  case round =>
    obtain ⟨k, hk, rfl, rfl⟩ := hrel
    by_cases hlt : k < s.size
    · have HS : Hid (hashL (s.data.toList.take (k + 1)) = hstep (hashL (s.data.toList.take k)) s[k]) := by
        rw [take_snoc s k hlt]; exact hashL_snoc _ _
      go_wp2
      go_round
      case rel => exact ⟨k + 1, by omega, by go_num, by rw [HS.out]; rfl⟩
      case measure => simp [intOf]; omega
    · go_wp2
      go_ret
      exact ⟨ret_int (by rw [List.take_of_length_le (by simp; omega)]), rfl⟩

set_option maxHeartbeats 400000 in
theorem zfnv_any (s : ByteArray) (w : World) (hs : s.size ≤ maxLen) : Calls Yba.prog 7 #[.string s] w fun e w' => e = .returned (.int .u64 (hashL s.data.toList)) ∧ w' = w := by
  unfold maxLen at hs
  go_enter Yba.func7, Yba.ntmps7
  go_wp2
  go_loop [3, 4] (fun n i => ∃ k : Nat, k ≤ s.size ∧ i = .int .i64 k ∧ n = .int .u64 (hashL (s.data.toList.take k))) (fun _ i => s.size - (intOf i).toNat)
  case atStart => exact ⟨0, Nat.zero_le _, rfl, rfl⟩
  case round =>
    obtain ⟨k, hk, rfl, rfl⟩ := hrel
    by_cases hlt : k < s.size
    · have HS : Hid (hashL (s.data.toList.take (k + 1)) = hstep (hashL (s.data.toList.take k)) s[k]) := by
        rw [take_snoc s k hlt]; exact hashL_snoc _ _
      go_wp2
      go_round
      case rel => exact ⟨k + 1, by omega, by go_num, by rw [HS.out]; rfl⟩
      case measure => simp [intOf]; omega
    · go_wp2
      go_ret
      exact ⟨ret_int (by rw [List.take_of_length_le (by simp; omega)]), rfl⟩

end Go.Proofs.Ybulkdbgy

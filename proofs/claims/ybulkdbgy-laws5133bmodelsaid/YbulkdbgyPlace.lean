import Derived.Test.YbulkdbgyWalks
import Derived.Lib.Strings
import Derived.BigGuardPart
namespace Go.Proofs.Ybulkdbgy
open Go.RowKit

theorem nameL_none (s : ByteArray) (h : s.size = 0) : nameL s.data.toList = false := by
  have : s.data.toList = [] := by rw [← List.length_eq_zero_iff]; simpa using h
  rw [this]; rfl
theorem toList_cons (s : ByteArray) (h : 0 < s.size) : s.data.toList = s[0] :: s.data.toList.drop 1 := by
  have : s.data.toList = s.data.toList[0]'(by simpa using h) :: s.data.toList.drop 1 := by
    rw [List.getElem_cons_drop]; rfl
  exact this
theorem nameL_some (s : ByteArray) (h : 0 < s.size) : nameL s.data.toList = (letB (s[0].toNat : Int) && (s.data.toList.drop 1).all (fun d => nameB (d.toNat : Int))) := by
  rw [toList_cons s h]; rfl

/-- Of the bytes 1 .. k-1 all may stand in a name. -/
def upTo (s : ByteArray) (k : Nat) : Prop := ∀ j, 1 ≤ j → j < k → ∀ h : j < s.size, nameB (s[j].toNat : Int) = true

theorem upTo_all (s : ByteArray) (h : upTo s s.size) : (s.data.toList.drop 1).all (fun d => nameB (d.toNat : Int)) = true := by
  rw [List.all_eq_true]
  intro d hd
  obtain ⟨i, hi, rfl⟩ := List.getElem_of_mem hd
  simp at hi
  have := h (i + 1) (by omega) (by omega) (by omega)
  simp only [List.getElem_drop]
  have e : 1 + i = i + 1 := by omega
  simp only [e]; exact this
theorem not_all (s : ByteArray) (k : Nat) (h1 : 1 ≤ k) (hk : k < s.size) (h : nameB (s[k].toNat : Int) = false) : (s.data.toList.drop 1).all (fun d => nameB (d.toNat : Int)) = false := by
  rw [List.all_eq_false]
  refine ⟨s[k], ?_, by simp [h]⟩
  rw [List.mem_iff_getElem]
  refine ⟨k - 1, by simp; omega, ?_⟩
  simp only [List.getElem_drop]
  have e : 1 + (k - 1) = k := by omega
  simp only [e]; rfl


set_option maxHeartbeats 400000 in
theorem isName_any (s : ByteArray) (w : World) (hs : s.size ≤ maxLen) : Calls Yba.prog 12 #[.string s] w fun e w' => e = .returned (.bool (nameL s.data.toList)) ∧ w' = w := by
  unfold maxLen at hs
  by_cases h0 : s.size = 0
  · rw [nameL_none s h0]
    have he : s.toList.isEmpty = true := by rw [ByteArray.toList_eq, List.isEmpty_iff, ← List.length_eq_zero_iff]; simpa using h0
    go_enter Yba.func12, Yba.ntmps12
    go_wp2_with fail
    go_ret
    exact ⟨rfl, rfl⟩
  · have hp : 0 < s.size := by omega
    have he : s.toList.isEmpty = false := by rw [ByteArray.toList_eq, List.isEmpty_eq_false_iff, ne_eq, ← List.length_eq_zero_iff]; simpa using h0
    rw [nameL_some s hp]
    cases hl : letB (s[0].toNat : Int)
    · go_enter Yba.func12, Yba.ntmps12
      go_wp2_with (go_at_call 13; refine (isLetter_any _ _).mono ?_; rintro e w' ⟨rfl, rfl⟩; rw [hl])
      go_ret
      exact ⟨rfl, rfl⟩
    · go_enter Yba.func12, Yba.ntmps12
      go_wp2_with (go_at_call 13; refine (isLetter_any _ _).mono ?_; rintro e w' ⟨rfl, rfl⟩; rw [hl])
      go_loop [3] (fun i => ∃ k : Nat, 1 ≤ k ∧ k ≤ s.size ∧ i = .int .i64 k ∧ Hid (upTo s k)) (fun i => s.size - (intOf i).toNat)
      case atStart => exact ⟨1, by omega, by omega, rfl, fun j h1 h2 _ => by omega⟩
      case round =>
        obtain ⟨k, h1k, hk, rfl, hup⟩ := hrel
        by_cases hlt : k < s.size
        · cases hn : nameB (s[k].toNat : Int)
          · have hna : Hid ((s.data.toList.drop 1).all (fun d => nameB (d.toNat : Int)) = false) := not_all s k h1k hlt hn
            go_wp2_with (go_at_call 14; refine (isNameByte_any _ _).mono ?_; rintro e w' ⟨rfl, rfl⟩; rw [hn])
            go_ret
            exact ⟨ret_bool (by rw [hna.out]; rfl), rfl⟩
          · have hup' : Hid (upTo s (k + 1)) := fun j h1 h2 hj => by
              by_cases e : j = k
              · subst e; exact hn
              · exact hup.out j h1 (by omega) hj
            go_wp2_with (go_at_call 14; refine (isNameByte_any _ _).mono ?_; rintro e w' ⟨rfl, rfl⟩; rw [hn])
            go_round
            case rel => exact ⟨k + 1, by omega, by omega, by go_num, hup'⟩
            case measure => simp [intOf]; omega
        · have hks : k = s.size := by omega
          have hall : Hid ((s.data.toList.drop 1).all (fun d => nameB (d.toNat : Int)) = true) := by
            rw [hks] at hup; exact upTo_all s hup.out
          clear hks
          go_wp2
          go_ret
          exact ⟨ret_bool (by rw [← List.drop_one, hall.out]), rfl⟩

theorem isPlaceholderName_any (s : ByteArray) (w : World) (hs : s.size ≤ maxLen) : Calls Yba.prog 11 #[.string s] w fun e w' => e = .returned (.bool (phNameL s.data.toList)) ∧ w' = w := by
  have hs' := hs
  unfold maxLen at hs
  unfold phNameL
  cases h : (s.data.toList == [42])
  · have h' : (s.toList == [42]) = false := by rw [ByteArray.toList_eq]; exact h
    go_enter Yba.func11, Yba.ntmps11
    go_wp2_with (go_at_call 12; refine (isName_any _ _ hs').mono ?_; rintro e w' ⟨rfl, rfl⟩)
    go_ret
    exact ⟨rfl, rfl⟩
  · have h' : (s.toList == [42]) = true := by rw [ByteArray.toList_eq]; exact h
    go_enter Yba.func11, Yba.ntmps11
    go_wp2_with (go_at_call 12; refine (isName_any _ _ hs').mono ?_; rintro e w' ⟨rfl, rfl⟩)
    go_ret
    exact ⟨rfl, rfl⟩


theorem phL_short (s : ByteArray) (h : ¬ 2 < s.size) : phL s.data.toList = false := by
  simp [phL]; omega

theorem u8_beq (c : UInt8) (n : Nat) (hn : n < 256) : (c == UInt8.ofNat n) = ((c.toNat : Int) == (n : Int)) := by
  rw [Bool.eq_iff_iff]
  simp [← UInt8.toNat_inj, UInt8.toNat_ofNat']
  omega

theorem mid_data (s : ByteArray) : (s.extract 1 (s.size - 1)).data.toList = (s.data.toList.drop 1).dropLast := by
  rw [Lib.extract_data, List.dropLast_eq_take]
  simp

theorem phL_eq (s : ByteArray) (h : 2 < s.size) : phL s.data.toList =
    (((s[0].toNat : Int) == 60) && ((s[s.size - 1].toNat : Int) == 62) && phNameL (s.extract 1 (s.size - 1)).data.toList) := by
  rw [mid_data]
  unfold phL
  have e0 : s.data.toList.head? = some s[0] := by rw [List.head?_eq_getElem?, List.getElem?_eq_getElem (by simp; omega)]; rfl
  have e1 : s.data.toList.getLast? = some s[s.size - 1] := by
    rw [List.getLast?_eq_getElem?, List.getElem?_eq_getElem (by simp; omega)]; rfl
  have e2 : decide (2 < s.data.toList.length) = true := by simpa using h
  rw [e0, e1, e2]
  have f0 := u8_beq s[0] 60 (by decide)
  have f1 := u8_beq s[s.size - 1] 62 (by decide)
  simp only [Bool.true_and]
  show ((s[0] == UInt8.ofNat 60) && (s[s.size - 1] == UInt8.ofNat 62) && _) = _
  rw [f0, f1]
  rfl


set_option maxHeartbeats 400000 in
theorem isPlaceholder_any (s : ByteArray) (w : World) (hs : s.size ≤ maxLen) : Calls Yba.prog 8 #[.string s] w fun e w' => e = .returned (.bool (phL s.data.toList)) ∧ w' = w := by
  have hm : (s.extract 1 (s.size - 1)).size ≤ maxLen := by simp [ByteArray.size_extract]; omega
  unfold maxLen at hs
  by_cases h2 : 2 < s.size
  · rw [phL_eq s h2]
    have h2' : (2 : Int) < (s.size : Int) := by omega
    go_enter Yba.func8, Yba.ntmps8
    go_wp2_with fail
    · refine (isPlaceholderName_any _ _ hm).mono ?_
      rintro e w' ⟨rfl, rfl⟩
      go_wp2
      go_ret
      have c0 : (s[0].toNat : Int) = 60 := by assumption
      have c1 : (s[s.size - 1].toNat : Int) = 62 := by assumption
      exact ⟨ret_bool (by rw [c0, c1, Lib.extract_data]; simp), rfl⟩
    · go_ret
      have c1 : ¬ (s[s.size - 1].toNat : Int) = 62 := by assumption
      exact ⟨ret_bool (by rw [beq_false_of_ne c1]; simp), rfl⟩
    · go_ret
      have c0 : ¬ (s[0].toNat : Int) = 60 := by assumption
      exact ⟨ret_bool (by rw [beq_false_of_ne c0]; simp), rfl⟩
  · rw [phL_short s h2]
    have h2' : decide ((2 : Int) < (s.size : Int)) = false := by simp; omega
    go_enter Yba.func8, Yba.ntmps8
    go_wp2
    go_ret
    exact ⟨rfl, rfl⟩
end Go.Proofs.Ybulkdbgy

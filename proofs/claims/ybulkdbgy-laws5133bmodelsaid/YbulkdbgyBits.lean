import Derived.Test.YbulkdbgyPlace
namespace Go.Proofs.Ybulkdbgy
open Go.RowKit

def datas (ss : List ByteArray) : List (List UInt8) := ss.map (·.data.toList)

theorem datas_take (ss : List ByteArray) (k : Nat) (h : k < ss.length) : datas (ss.take (k + 1)) = datas (ss.take k) ++ [(ss.getD k ByteArray.empty).data.toList] := by
  rw [List.take_succ_eq_append_getElem h]
  unfold datas
  rw [List.map_append]
  simp [h]

theorem or_step (N : Nat) (l : List UInt8) (hN : N < 2 ^ 64) (hp : phL l = false) :
    bits .or .u64 (N : Int) (IntKind.u64.wrap (2 ^ (hashL l % 64).toNat)) = ((wstep N l : Nat) : Int) := by
  have hb := hashL_bd l
  have e : (hashL l % 64).toNat = bitL l := by unfold bitL; omega
  have hlt0 : 2 ^ bitL l < 2 ^ 64 := Nat.pow_lt_pow_right (by decide) (bitL_lt l)
  have hlt : 2 ^ bitL l < 18446744073709551616 := Nat.lt_of_lt_of_le hlt0 (by decide)
  have e2 : IntKind.u64.wrap (2 ^ bitL l) = ((2 ^ bitL l : Nat) : Int) := by
    rw [IntKind.wrap_u64]
    have : ((2 : Int) ^ bitL l) = ((2 ^ bitL l : Nat) : Int) := by simp
    rw [this]
    generalize 2 ^ bitL l = q at *
    omega
  rw [e, e2, u64_or_nat N _ hN hlt]
  simp [wstep, hp]
theorem ph_step (N : Nat) (l : List UInt8) (hp : phL l = true) : wstep N l = N := by simp [wstep, hp]

theorem wb_empty (a : Option Addr) (cap : Nat) (w : World) : Calls Yba.prog 5 #[.slice a 0 cap] w fun e w' => e = .returned (.int .u64 1) ∧ w' = w := by
  go_enter Yba.func5, Yba.ntmps5
  go_wp2
  refine wp_loop_rounds 1 ?_
  rw [rounds_succ]
  go_wp2
  go_ret
  exact ⟨rfl, rfl⟩

set_option maxHeartbeats 400000 in
theorem wb_any (b off cap : Nat) (ss : List ByteArray) (w : World) (hlen : ss.length ≤ 4611686018427387904)
    (hc : ∀ j, j < ss.length → w.cell? ⟨b, off + j, none⟩ = some (.string (ss.getD j ByteArray.empty))) (hsz : ∀ s ∈ ss, s.size ≤ maxLen) :
    Calls Yba.prog 5 #[.slice (some ⟨b, off, none⟩) ss.length cap] w fun e w' => e = .returned (.int .u64 (wbN (datas ss) : Nat)) ∧ w' = w := by
  have hc' : Hid (∀ j, j < ss.length → w.cell? ⟨b, off + j, none⟩ = some (.string (ss.getD j ByteArray.empty))) := hc
  clear hc
  go_enter Yba.func5, Yba.ntmps5
  go_wp2
  go_loop [3, 5, 8] (fun n _ i => ∃ k : Nat, k ≤ ss.length ∧ i = .int .i64 k ∧ n = .int .u64 (wbN (datas (ss.take k)) : Nat)) (fun _ _ i => ss.length - (intOf i).toNat)
  case atStart => exact ⟨0, Nat.zero_le _, rfl, rfl⟩
  case round =>
    obtain ⟨k, hk, rfl, rfl⟩ := hrel
    by_cases hlt : k < ss.length
    · have hck := hc'.out k hlt
      obtain ⟨s, hs⟩ : ∃ s, s = ss.getD k ByteArray.empty := ⟨_, rfl⟩
      rw [← hs] at hck
      have hss : s.size ≤ maxLen := hsz s (by rw [hs]; simp [hlt])
      have HS : Hid (datas (ss.take (k + 1)) = datas (ss.take k) ++ [s.data.toList]) := by rw [hs]; exact datas_take ss k hlt
      have hlt' := wbN_lt (datas (ss.take k))
      have hb := hashL_bd s.data.toList
      have hsz' : Hid (∀ s ∈ ss, s.size ≤ maxLen) := hsz
      clear hs hsz
      have HN : Hid (wbN (datas (ss.take (k + 1))) = wstep (wbN (datas (ss.take k))) s.data.toList) := by rw [HS.out]; exact wbN_snoc _ _
      generalize wbN (datas (ss.take k)) = N at *
      cases hp : phL s.data.toList
      · go_wp2_with (first
          | (go_at_call 8; refine (isPlaceholder_any _ _ hss).mono ?_; rintro e w' ⟨rfl, rfl⟩; rw [hp])
          | (go_at_call 9; refine (hash_any _ _ hss).mono ?_; rintro e w' ⟨rfl, rfl⟩))
        go_round
        case rel => exact ⟨k + 1, by omega, by go_num, by rw [HN.out, or_step N _ hlt' hp]⟩
        case measure => simp [intOf]; omega
      · go_wp2_with (first
          | (go_at_call 8; refine (isPlaceholder_any _ _ hss).mono ?_; rintro e w' ⟨rfl, rfl⟩; rw [hp])
          | (go_at_call 9; refine (hash_any _ _ hss).mono ?_; rintro e w' ⟨rfl, rfl⟩))
        go_round
        case rel => exact ⟨k + 1, by omega, by go_num, by rw [HN.out, ph_step N _ hp]⟩
        case measure => simp [intOf]; omega
    · go_wp2
      go_ret
      exact ⟨ret_int (by rw [List.take_of_length_le (by omega)]), rfl⟩
end Go.Proofs.Ybulkdbgy

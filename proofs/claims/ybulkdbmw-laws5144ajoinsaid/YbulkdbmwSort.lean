import Derived.Test.YbulkdbmwPdq
namespace Go.Proofs.Ybulkdbmw
open Go Go.RowKit Go.Sort

/-- slices.Sort over HostIDs. -/
theorem sort_u (blk off cap : Nat) (d : Array Int) (w0 w : World) (hS : Sw w0 w blk off d) (hblk : blk < w0.heap.size) (hsz : d.size < 1000000) :
    Calls Yba.prog 15 #[.slice (some ⟨blk, off, none⟩) d.size cap] w fun e w' => e = .returned (.tuple #[]) ∧ Sw w0 w' blk off (Sort.sort ltInt d) := by
  have hLen : ∀ w, Calls Yba.prog 28 #[.int .u64 (d.size : Int)] w fun e w' => e = .returned (.int .i64 (bitsLen d.size : Nat)) ∧ w' = w := fun w => by
    have h := Yba.bits_Len (d.size : Int) w (by omega) (by omega)
    rwa [Int.toNat_natCast, bitLen_eq _ (by omega)] at h
  have hk : bitsLen d.size ≤ 62 := (bitsLen_le_iff d.size 62).2 (by omega)
  have H : Hid (Calls Yba.prog 27 #[.slice (some ⟨blk, off, none⟩) d.size cap, .int .i64 0, .int .i64 d.size, .int .i64 (bitsLen d.size : Nat)] w fun e w' => e = .returned (.tuple #[]) ∧ Sw w0 w' blk off (Sort.sort ltInt d)) :=
    pdq_u w0 plainU (d.size + 1) blk off cap 0 d.size (bitsLen d.size) d w (by omega) hS hblk (by omega) (by omega) hsz (by omega) (Or.inl rfl)
  clear hS
  generalize Sort.sort ltInt d = R at *
  generalize d.size = n at *
  generalize bitsLen n = k at *
  go_enter Yba.func15, Yba.ntmps15
  go_wp2_with (first
    | (go_at_call 28; refine (hLen _).mono ?_; rintro e w' ⟨rfl, rfl⟩)
    | (go_at_call 27; refine Calls.mono H.out ?_; rintro e w' ⟨rfl, hw⟩))
  go_end0
  exact ⟨rfl, hw⟩

theorem sort_size (d : Array Int) : (Sort.sort ltInt d).size = d.size := (sort_sorts ltInt swo_ltInt d).1.1

theorem ins_nil (p : Option Addr) (cap : Nat) (w : World) :
    Calls Yba.prog 46 #[.slice p 0 cap, .int .i64 0, .int .i64 0] w fun e w' => e = .returned (.tuple #[]) ∧ w' = w := by
  go_enter Yba.func46, Yba.ntmps46
  go_wp2
  refine wp_loop_rounds 1 ?_
  rw [rounds_succ]
  go_wp2
  go_end0
  exact ⟨rfl, rfl⟩

set_option maxRecDepth 100000 in
theorem pdq_nil (p : Option Addr) (cap : Nat) (w : World) :
    Calls Yba.prog 27 #[.slice p 0 cap, .int .i64 0, .int .i64 0, .int .i64 0] w fun e w' => e = .returned (.tuple #[]) ∧ w' = w := by
  go_enter Yba.func27, Yba.ntmps27
  go_wp2
  refine wp_loop_rounds 1 ?_
  rw [rounds_succ]
  go_wp2_with (first | (go_at_call 46; refine (ins_nil p cap _).mono ?_; rintro e w' ⟨rfl, rfl⟩))
  refine bodyPost_ret (results_none rfl _ _ _) rfl ?_
  exact ⟨rfl, rfl⟩

set_option maxRecDepth 100000 in
/-- slices.Sort of no element. -/
theorem sort_nil (p : Option Addr) (cap : Nat) (w : World) :
    Calls Yba.prog 15 #[.slice p 0 cap] w fun e w' => e = .returned (.tuple #[]) ∧ w' = w := by
  have hLen : ∀ w, Calls Yba.prog 28 #[.int .u64 0] w fun e w' => e = .returned (.int .i64 0) ∧ w' = w := fun w => Yba.bits_Len 0 w (by omega) (by omega)
  go_enter Yba.func15, Yba.ntmps15
  go_wp2_with (first
    | (go_at_call 28; refine (hLen _).mono ?_; rintro e w' ⟨rfl, rfl⟩)
    | (go_at_call 27; refine (pdq_nil p cap _).mono ?_; rintro e w' ⟨rfl, rfl⟩))
  go_end0
  exact ⟨rfl, rfl⟩
end Go.Proofs.Ybulkdbmw

import Derived.Test.YbulkdbksDropW
namespace Go.Proofs.Ybulkdbks
open Go Go.RowKit

/-- How many of the first k stay, where f tells what the first k take. -/
def fitK (N : Nat) (f : Nat → Nat) : Nat → Nat
  | 0 => 0
  | k + 1 => if N < f (k + 1) then fitK N f k else k + 1
theorem fitK_le (N : Nat) (f : Nat → Nat) : ∀ k, fitK N f k ≤ k
  | 0 => Nat.le_refl _
  | k + 1 => by
    unfold fitK
    split
    · have := fitK_le N f k; omega
    · omega
theorem fitK_step {N : Nat} {f : Nat → Nat} {k : Nat} (h : N < f (k + 1)) : fitK N f (k + 1) = fitK N f k := by rw [fitK, if_pos h]
theorem fitK_stop {N : Nat} {f : Nat → Nat} {k : Nat} (h : f k ≤ N) : fitK N f k = k := by
  cases k with
  | zero => rfl
  | succ k => rw [fitK, if_neg (by omega)]

def lenAt (w : World) (nb : Nat) : Nat := match w.cell? ⟨nb, 121, none⟩ with
  | some (.int _ n) => n.toNat
  | _ => 0
theorem lenAt_of {w : World} {nb : Nat} {n : Nat} (h : w.cell? ⟨nb, 121, none⟩ = some (.int .i64 n)) : lenAt w nb = n := by unfold lenAt; rw [h]; simp

theorem Inv.drewN {w : World} {κ : Nat → Nat} {nb mb : Nat} {N K F : Int} {L : List Ent} (h : Inv w κ nb mb N K F L) (n : Nat) : Inv (w.drewN n) κ nb mb N K F L := h.grow (Nat.le_refl _) (fun _ _ _ => rfl) (fun _ _ _ => rfl)

theorem take_succ_last {L : List Ent} {k : Nat} (h : k < L.length) : L.take (k + 1) = L.take k ++ L[k] :: [] := by
  rw [List.take_add_one, List.getElem?_eq_getElem h]; rfl

/-- The last of the list is what stands ahead of the root. -/
theorem Inv.back {w : World} {κ : Nat → Nat} {nb mb : Nat} {N K F : Int} {l1 : List Ent} {e : Ent} (I : Inv w κ nb mb N K F (l1 ++ e :: [])) : w.cell? ⟨nb, 118, none⟩ = some (ptr e.eb 0) := by
  obtain ⟨A, p, s, B, hA, hB, hC, hp, hs, hpe, hse⟩ := I.around
  obtain ⟨k1, k2, k3, k4⟩ := ring_at hC
  have ne : e.eb ≠ nb := fun h => nb_not_el I (by rw [← h]; simp)
  simp at hB
  obtain ⟨rfl, _⟩ := hB
  unfold prevIs at k4
  rw [off_root, off_el ne] at k4
  exact k4

theorem heldOf_take_le (L : List Ent) : ∀ k, heldOf (L.take k) ≤ heldOf L := by
  intro k
  have : heldOf L = heldOf (L.take k) + heldOf (L.drop k) := by
    unfold heldOf
    rw [← List.sum_append, ← List.map_append, List.take_append_drop]
  omega

set_option maxHeartbeats 2000000 in
theorem fit_any {w : World} {κ : Nat → Nat} {nb mb N : Nat} {K F : Int} {L : List Ent} (I : Inv w κ nb mb (N : Int) K F L) (hl : L.length ≤ 1000) (hheld : heldOf L ≤ 100000) (_hN : N ≤ 100) :
    Calls Yba.prog 38 #[ptr nb 112] w fun r w' => r = .returned (.tuple #[]) ∧ Inv w' κ nb mb (N : Int) K F (L.take (fitK N (fun k => heldOf (L.take k)) L.length)) ∧ Fr κ w w' := by
  have HI : Hid _ := I
  have Hhl : Hid _ := heldOf_take_le L
  clear I
  go_enter Yba.func38, Yba.ntmps38
  go_wp2
  go_loopw [] (fun wr => ∃ k : Nat, k ≤ L.length ∧ fitK N (fun k => heldOf (L.take k)) k = fitK N (fun k => heldOf (L.take k)) L.length ∧ Inv wr κ nb mb (N : Int) K F (L.take k) ∧ Fr κ w wr) (fun wr => lenAt wr nb)
  case atStart => exact ⟨L.length, Nat.le_refl _, rfl, by rw [List.take_length]; exact HI.out, Fr.refl _ _⟩
  case round =>
    obtain ⟨k, hk, hf, I, fr⟩ := hrel
    have c115 := I.ch
    have c112 := I.cN
    have c121 := I.cl
    rw [List.length_take, Nat.min_eq_left hk] at c121
    have hb := Hhl.out k
    have hlen := lenAt_of c121
    by_cases h : N < heldOf (L.take k)
    · obtain ⟨j, rfl⟩ : ∃ j, k = j + 1 := by
        cases k with
        | zero => simp [heldOf] at h
        | succ j => exact ⟨j, rfl⟩
      have HF : Hid (fitK N (fun k => heldOf (L.take k)) j = fitK N (fun k => heldOf (L.take k)) L.length) := by
        show _ = _
        rw [← hf, fitK_step h]
      have ht := take_succ_last (L := L) (k := j) (by omega)
      have HI' : Hid (∀ n, Calls Yba.prog 31 #[ptr nb 112, ptr (L[j]'(by omega)).eb 0] (wr.drewN n) fun r w' => r = .returned (.tuple #[]) ∧ Inv w' κ nb mb (N : Int) K F (L.take j) ∧ Fr κ (wr.drewN n) w') := fun n => by
        have I2 := I.drewN n
        rw [ht] at I2
        have := drop_any I2 (by rw [← ht, List.length_take]; omega) (by rw [← ht]; omega)
        simpa using this
      rw [ht] at I
      have c118 := I.back
      have HFr : Hid _ := fr
      have hd : decide ((N : Int) < (heldOf (L.take (j + 1)) : Int)) = true := by simp; omega
      clear I fr hf ht
      generalize (L[j]'(by omega)).eb = x at *
      generalize heldOf (L.take (j + 1)) = H at *
      have HB : Hid (∀ n, Calls Yba.prog 46 #[ptr nb 117] (wr.drewN n) fun e w' => e = .returned (ptr x 0) ∧ w' = wr.drewN n) := fun n => back_any nb 117 _ _ _ c121 (by omega) c118
      go_wp2
      go_quiet (fail)
      rename_i nq
      go_wp2_with (first
        | (go_at_call 46; refine Calls.mono (HB.out _) ?_; rintro r w' ⟨rfl, rfl⟩)
        | (go_at_call 31; refine Calls.mono (HI'.out _) ?_; rintro r w' ⟨rfl, I3, fr3⟩; have HI3 : Hid _ := I3; have HF3 : Hid _ := fr3; clear I3 fr3))
      go_roundw
      case rel => exact ⟨j, by omega, HF.out, HI3.out, HFr.out.trans (κ' := κ) ⟨HF3.out.os, HF3.out.tape, HF3.out.output, HF3.out.size, HF3.out.block⟩ (fun _ _ => rfl)⟩
      case measure =>
        have := HI3.out.cl
        rw [List.length_take, Nat.min_eq_left (by omega)] at this
        rw [lenAt_of this, hlen]
        omega
    · have hd : decide ((N : Int) < (heldOf (L.take k) : Int)) = false := by simp; omega
      have HI2 : Hid _ := I
      have HFr : Hid _ := fr
      clear I fr
      generalize hH : heldOf (L.take k) = H at *
      have HH : Hid _ := hH
      clear hH
      go_wp2
      go_quiet (fail)
      rename_i nq
      go_wp2
      go_end0
      have e : fitK N (fun k => heldOf (L.take k)) L.length = k := by
        rw [← hf]; exact fitK_stop (by show heldOf (L.take k) ≤ N; rw [HH.out]; omega)
      refine ⟨rfl, ?_, ?_⟩
      · rw [e]; exact HI2.out.drewN nq
      · exact ⟨HFr.out.os, HFr.out.tape, HFr.out.output, HFr.out.size, HFr.out.block⟩
end Go.Proofs.Ybulkdbks

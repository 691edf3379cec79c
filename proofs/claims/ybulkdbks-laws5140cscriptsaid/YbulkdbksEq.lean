import Derived.Test.YbulkdbksCopy
namespace Go.Proofs.Ybulkdbks
open Go Go.RowKit

/-- Match j as the law wants it: no hops. -/
def QEnt (w : World) (b j : Nat) : Prop :=
  w.cell? ⟨b, 3 * j, none⟩ = some (.string (nameB j)) ∧ w.cell? ⟨b, 3 * j + 1, none⟩ = some (.int .i64 0) ∧
  ∃ ao cap, w.cell? ⟨b, 3 * j + 2, none⟩ = some (.slice ao (j % 4) cap) ∧ (0 < j % 4 → ∃ hb, ao = some ⟨hb, 0, none⟩ ∧ ∀ i, i < j % 4 → w.cell? ⟨hb, i, none⟩ = some (.string (holdB i)))

def EqIn (w : World) (v : Value) (m : Nat) : Prop := ∃ ao cap, v = .slice ao m cap ∧ (0 < m → ∃ b, ao = some ⟨b, 0, none⟩ ∧ ∀ j, j < m → QEnt w b j)

theorem MsOk.eqIn {w : World} {κ : Nat → Nat} {v : Value} {m : Nat} (h : MsOk w κ v m) : EqIn w v m := by
  rcases h with ⟨rfl, rfl⟩ | ⟨b, cap, rfl, _, _, r⟩
  · exact ⟨none, 0, rfl, fun h => by omega⟩
  · refine ⟨_, _, rfl, fun _ => ⟨b, rfl, fun j hj => ?_⟩⟩
    obtain ⟨c0, c1, h, c2, ao, cap', rfl, hn, r'⟩ := r j hj
    exact ⟨c0, c1, ao, cap', c2, fun h0 => by obtain ⟨hb, e, _, c⟩ := r' h0; exact ⟨hb, e, c⟩⟩

theorem QEnt.grown {w w' : World} {b j : Nat} (h : QEnt w b j) (g : w.grownBy w' none) : QEnt w' b j := by
  obtain ⟨c0, c1, ao, cap, c2, r⟩ := h
  exact ⟨cell_grown c0 g, cell_grown c1 g, ao, cap, cell_grown c2 g, fun h0 => by obtain ⟨hb, e, c⟩ := r h0; exact ⟨hb, e, fun i hi => cell_grown (c i hi) g⟩⟩

theorem grown_drewN {a b : World} {row : Option Nat} (h : a.grownBy b row) (n : Nat) : a.grownBy (b.drewN n) row := ⟨h.os, h.tape, h.output, h.size, h.block⟩

set_option maxHeartbeats 2000000 in
set_option maxRecDepth 100000 in
theorem eq_any (v : Value) (m : Nat) (hm : m ≤ 6) (w : World) (hs : EqIn w v m) : Calls Yba.prog 19 #[v, .int .i64 m] w fun e w' => e = .returned (.bool true) ∧ w.grownBy w' none := by
  obtain ⟨sao, scap, rfl, hsrc⟩ := hs
  have HSrc : Hid _ := hsrc
  clear hsrc
  go_enter Yba.func19, Yba.ntmps19
  go_wp2
  go_loopw [4, 5, 6, 7] (fun _ si _ _ wr => ∃ q : Nat, q ≤ m ∧ si = .int .i64 q ∧ w.grownBy wr none) (fun _ si _ _ _ => m - (intOf si).toNat)
  case atStart => exact ⟨0, Nat.zero_le _, rfl, ⟨rfl, rfl, rfl, Nat.le_refl _, fun _ _ _ => rfl⟩⟩
  case round =>
    obtain ⟨q, hq, rfl, hg⟩ := hrel
    by_cases hlt : q < m
    · obtain ⟨sb, rfl, hent⟩ := HSrc.out (by omega)
      have Q0 := (hent q hlt).grown hg
      have HQ : Hid (QEnt wr sb q) := Q0
      have c0 := Q0.1
      have c1 := Q0.2.1
      clear Q0
      rw [Nat.mul_comm 3 q] at c0 c1
      have hltI : (q : Int) < (m : Int) := by omega
      have HNm : Hid (∀ wz : World, Calls Yba.prog 35 #[.int .i64 q] wz fun e w' => e = .returned (.string (nameB q)) ∧ w' = wz) := fun wz => name_any q (by omega) wz
      clear hent
      have HG : Hid _ := hg
      clear hg HSrc
      generalize hnm : nameB q = nm at c0 HNm
      clear hnm
      go_wp2_with fail
      go_quiet ((go_at_call 35; exact Calls.quiet_of_same (HNm.out _)))
      rename_i nq
      go_wp2_with (go_at_call 36; refine (hold_any q (by omega) _).mono ?_; rintro e w1 ⟨hb, rfl, h1, h2, h3, h4, h5⟩; obtain ⟨_, _, ao2, cap2, d2, hh2⟩ := QEnt.grown HQ.out (w' := w1) ⟨h5.os, h5.tape, h5.output, h5.size, h5.block⟩; rw [Nat.mul_comm 3 q] at d2; have HG1 : Hid (w.grownBy w1 none) := grown_trans HG.out ⟨h5.os, h5.tape, h5.output, h5.size, h5.block⟩; have H4 : Hid _ := h4; have HH2 : Hid _ := hh2; clear h1 h2 h3 h4 h5 hh2)
      go_loopw [7] (fun si wr => ∃ i : Nat, i ≤ q % 4 ∧ si = .int .i64 i ∧ ∃ nq, wr = w1.drewN nq) (fun si _ => q % 4 - (intOf si).toNat)
      case atStart => exact ⟨0, Nat.zero_le _, rfl, 0, rfl⟩
      case round =>
        obtain ⟨i, hi, rfl, nq2, rfl⟩ := hrel
        by_cases hlt2 : i < q % 4
        · obtain ⟨hb2, rfl, hc2⟩ := HH2.out (by omega)
          have e1 := hc2 i hlt2
          have e2 := H4.out i hlt2
          clear hc2
          generalize holdB i = ho at e1 e2
          generalize hk : q % 4 = k at *
          have hltI2 : (i : Int) < (k : Int) := by omega
          go_wp2
          go_quiet (fail)
          go_wp2
          go_roundw
          case rel => exact ⟨i + 1, by omega, by go_num, _, rfl⟩
          case measure => simp [intOf]; omega
        · go_wp2
          go_roundw
          case rel => exact ⟨q + 1, by omega, by go_num, grown_drewN HG1.out _⟩
          case measure => simp [intOf]; omega
    · go_wp2
      go_ret
      exact ⟨rfl, hg⟩
end Go.Proofs.Ybulkdbks

import Derived.Test.YbulkdbmwPl
import Derived.Test.YbulkdbmwArr
namespace Go.Proofs.Ybulkdbmw
open Go Go.RowKit Go.Sort Go.Shelf Go.Lib

deriving instance DecidableEq for Hd

theorem bytes_inj {a b : ByteArray} (h : a.toList = b.toList) : a = b := by
  rw [ByteArray.toList_eq, ByteArray.toList_eq] at h
  obtain ⟨⟨x⟩⟩ := a
  obtain ⟨⟨y⟩⟩ := b
  simp only at h
  rw [h]

set_option maxHeartbeats 3200000 in
set_option maxRecDepth 100000 in
theorem eq_u (b o : Hd) (p q : Value) (lb lo : List Int) (w : World) (hp : Pl w p lb) (hq : Pl w q lo) (h1 : lb.length < 100000) (h2 : lo.length < 100000) :
    Calls Yba.prog 11 #[b.val p, o.val q] w fun e w' => e = .returned (.bool (decide (b = o ∧ lb = lo))) ∧ w.grownBy w' none := by
  have HE : Hid (∀ wz, w.grownBy wz none → Calls Yba.prog 16 #[p, q] wz fun e w' => e = .returned (.bool (decide (lb = lo))) ∧ ∃ k, w' = wz.drewN k) := fun wz g => equal_u p q lb lo wz (hp.f0 g) (hq.f0 g) (by omega) (by omega)
  obtain ⟨nm, sz, vw, h0, h1, h2, h3, h4, h5, tg, ti, tc, av, sq, rm⟩ := b
  obtain ⟨nm', sz', vw', h0', h1', h2', h3', h4', h5', tg', ti', tc', av', sq', rm'⟩ := o
  simp only [Hd.val, Hd.mk.injEq]
  clear hp hq
  have A6 := fun w => arr6 9998 h0 h1 h2 h3 h4 h5 h0' h1' h2' h3' h4' h5' w
  rcases Classical.em (nm = nm') with rfl | e1
  · rcases Classical.em (sz = sz') with rfl | e2
    · rcases Classical.em (vw = vw') with rfl | e3
      · rcases Classical.em (h0 = h0' ∧ h1 = h1' ∧ h2 = h2' ∧ h3 = h3' ∧ h4 = h4' ∧ h5 = h5') with ⟨rfl, rfl, rfl, rfl, rfl, rfl⟩ | e4
        · go_enter Yba.func11, Yba.ntmps11
          go_wp2_with (go_at_call 16; refine (HE.out _ (gA2 _ _ _)).mono ?_; rintro e w' ⟨rfl, k, rfl⟩)
          all_goals go_ret
          all_goals first | exact ⟨by simp [*], gD (gA2 _ _ _) _⟩ | exact ⟨by simp [*], gA2 _ _ _⟩
        · have d4 := decide_eq_false e4
          rw [d4] at A6
          go_enter Yba.func11, Yba.ntmps11
          go_wp2
          go_ret
          exact ⟨by simp; intros; omega, gA2 _ _ _⟩
      · go_enter Yba.func11, Yba.ntmps11
        go_wp2
        go_ret
        exact ⟨by simp [*], gA2 _ _ _⟩
    · go_enter Yba.func11, Yba.ntmps11
      go_wp2
      go_ret
      exact ⟨by simp [*], gA2 _ _ _⟩
  · have e1' : ¬ nm.toList = nm'.toList := fun h => e1 (bytes_inj h)
    go_enter Yba.func11, Yba.ntmps11
    go_wp2
    go_ret
    exact ⟨by simp [*], gA2 _ _ _⟩
set_option maxHeartbeats 3200000 in
set_option maxRecDepth 100000 in
theorem zzeq_u (b o : Hd) (p q : Value) (lb lo : List Int) (w : World) (hp : Pl w p lb) (hq : Pl w q lo) (h1 : lb.length < 100000) (h2 : lo.length < 100000) :
    Calls Yba.prog 7 #[b.val p, o.val q] w fun e w' => e = .returned (.bool (decide (b = o ∧ lb = lo))) ∧ w.grownBy w' none := by
  have HE : Hid (∀ wz, w.grownBy wz none → Calls Yba.prog 16 #[p, q] wz fun e w' => e = .returned (.bool (decide (lb = lo))) ∧ ∃ k, w' = wz.drewN k) := fun wz g => equal_u p q lb lo wz (hp.f0 g) (hq.f0 g) (by omega) (by omega)
  obtain ⟨nm, sz, vw, h0, h1, h2, h3, h4, h5, tg, ti, tc, av, sq, rm⟩ := b
  obtain ⟨nm', sz', vw', h0', h1', h2', h3', h4', h5', tg', ti', tc', av', sq', rm'⟩ := o
  simp only [Hd.val, Hd.mk.injEq]
  clear hp hq
  have A6 := fun w => arr6 9998 h0 h1 h2 h3 h4 h5 h0' h1' h2' h3' h4' h5' w
  rcases Classical.em (nm = nm') with rfl | e1
  · rcases Classical.em (sz = sz') with rfl | e2
    · rcases Classical.em (vw = vw') with rfl | e3
      · rcases Classical.em (h0 = h0' ∧ h1 = h1' ∧ h2 = h2' ∧ h3 = h3' ∧ h4 = h4' ∧ h5 = h5') with ⟨rfl, rfl, rfl, rfl, rfl, rfl⟩ | e4
        · go_enter Yba.func7, Yba.ntmps7
          go_wp2_with (go_at_call 16; refine (HE.out _ (gA2 _ _ _)).mono ?_; rintro e w' ⟨rfl, k, rfl⟩)
          all_goals go_ret
          all_goals first | exact ⟨by simp [*], gD (gA2 _ _ _) _⟩ | exact ⟨by simp [*], gA2 _ _ _⟩
        · have d4 := decide_eq_false e4
          rw [d4] at A6
          go_enter Yba.func7, Yba.ntmps7
          go_wp2
          go_ret
          exact ⟨by simp; intros; omega, gA2 _ _ _⟩
      · go_enter Yba.func7, Yba.ntmps7
        go_wp2
        go_ret
        exact ⟨by simp [*], gA2 _ _ _⟩
    · go_enter Yba.func7, Yba.ntmps7
      go_wp2
      go_ret
      exact ⟨by simp [*], gA2 _ _ _⟩
  · have e1' : ¬ nm.toList = nm'.toList := fun h => e1 (bytes_inj h)
    go_enter Yba.func7, Yba.ntmps7
    go_wp2
    go_ret
    exact ⟨by simp [*], gA2 _ _ _⟩
end Go.Proofs.Ybulkdbmw

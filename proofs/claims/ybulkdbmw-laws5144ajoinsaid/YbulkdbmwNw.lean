import Derived.Test.YbulkdbmwHd
import Derived.Deep.RegionHeld3
namespace Go.Proofs.Ybulkdbmw
open Go Go.RowKit

def cmpI (x y : Int) : Int := if x < y then -1 else if y < x then 1 else 0
def or2 (x y : Int) : Int := if x ≠ 0 then x else y

theorem isNaN64_u (x : Int) (w : World) : Calls Yba.prog 89 #[.int .u64 x] w fun e w' => e = .returned (.bool false) ∧ w' = w := by
  go_enter Yba.func89, Yba.ntmps89
  go_wp2
  go_ret
  exact ⟨by simp, rfl⟩

theorem cmp64_u (x y : Int) (w : World) : Calls Yba.prog 66 #[.int .u64 x, .int .u64 y] w fun e w' => e = .returned (.int .i64 (cmpI x y)) ∧ w' = w := by
  have H := isNaN64_u
  unfold cmpI
  go_enter Yba.func66, Yba.ntmps66
  rcases Int.lt_trichotomy x y with h | rfl | h
  · go_wp2_with (go_at_call 89; refine (H _ _).mono ?_; rintro e w' ⟨rfl, rfl⟩)
    go_ret
    exact ⟨by simp, rfl⟩
  · go_wp2_with (go_at_call 89; refine (H _ _).mono ?_; rintro e w' ⟨rfl, rfl⟩)
    go_ret
    exact ⟨by simp, rfl⟩
  · have h' : ¬ x < y := by omega
    go_wp2_with (go_at_call 89; refine (H _ _).mono ?_; rintro e w' ⟨rfl, rfl⟩)
    go_ret
    exact ⟨by simp, rfl⟩

theorem cmp32_u (x y : Int) (w : World) : Calls Yba.prog 43 #[.int .u32 x, .int .u32 y] w fun e w' => e = .returned (.int .i64 (cmpI x y)) ∧ w' = w := by
  have H := isNaN_u
  unfold cmpI
  go_enter Yba.func43, Yba.ntmps43
  rcases Int.lt_trichotomy x y with h | rfl | h
  · go_wp2_with (go_at_call 78; refine (H _ _).mono ?_; rintro e w' ⟨rfl, rfl⟩)
    go_ret
    exact ⟨by simp, rfl⟩
  · go_wp2_with (go_at_call 78; refine (H _ _).mono ?_; rintro e w' ⟨rfl, rfl⟩)
    go_ret
    exact ⟨by simp, rfl⟩
  · have h' : ¬ x < y := by omega
    go_wp2_with (go_at_call 78; refine (H _ _).mono ?_; rintro e w' ⟨rfl, rfl⟩)
    go_ret
    exact ⟨by simp, rfl⟩

/-- cmp.Or of two. -/
theorem or2_u (b cap : Nat) (x y : Int) (w : World) (c0 : w.cell? ⟨b, 0, none⟩ = some (.int .i64 x)) (c1 : w.cell? ⟨b, 1, none⟩ = some (.int .i64 y)) :
    Calls Yba.prog 41 #[.slice (some ⟨b, 0, none⟩) 2 cap] w fun e w' => e = .returned (.int .i64 (or2 x y)) ∧ w' = w := by
  unfold or2
  go_enter Yba.func41, Yba.ntmps41
  go_wp2
  refine wp_loop_rounds 3 ?_
  rw [rounds_succ]
  by_cases hx : x = 0
  · subst hx
    go_wp2
    rw [rounds_succ]
    by_cases hy : y = 0
    · subst hy
      go_wp2
      rw [rounds_succ]
      go_wp2
      go_ret
      exact ⟨by simp, rfl⟩
    · go_wp2
      go_ret
      exact ⟨by simp, rfl⟩
  · go_wp2
    go_ret
    exact ⟨by simp, rfl⟩

/-- cmp.Or of three. -/
theorem or3_u (b cap : Nat) (x y z : Int) (w : World) (c0 : w.cell? ⟨b, 0, none⟩ = some (.int .i64 x)) (c1 : w.cell? ⟨b, 1, none⟩ = some (.int .i64 y)) (c2 : w.cell? ⟨b, 2, none⟩ = some (.int .i64 z)) :
    Calls Yba.prog 41 #[.slice (some ⟨b, 0, none⟩) 3 cap] w fun e w' => e = .returned (.int .i64 (or2 x (or2 y z))) ∧ w' = w := by
  unfold or2
  go_enter Yba.func41, Yba.ntmps41
  go_wp2
  refine wp_loop_rounds 4 ?_
  rw [rounds_succ]
  by_cases hx : x = 0
  · subst hx
    go_wp2
    rw [rounds_succ]
    by_cases hy : y = 0
    · subst hy
      go_wp2
      rw [rounds_succ]
      by_cases hz : z = 0
      · subst hz
        go_wp2
        rw [rounds_succ]
        go_wp2
        go_ret
        exact ⟨by simp, rfl⟩
      · go_wp2
        go_ret
        exact ⟨by simp, rfl⟩
    · go_wp2
      go_ret
      exact ⟨by simp, rfl⟩
  · go_wp2
    go_ret
    exact ⟨by simp, rfl⟩

theorem ct {W : World} {cs : Array Value} {T : TypeId} {n j : Nat} {v : Value} (hn : n = W.heap.size) (h : cs[j]? = some v) : (W.alloc (.cells cs T)).cell? ⟨n, j, none⟩ = some v := by
  subst hn
  unfold World.cell? World.alloc
  simpa using h
theorem ctd {W : World} {cs : Array Value} {T : TypeId} {n j : Nat} {v : Value} (hn : n = W.heap.size) (h : cs[j]? = some v) : (W.alloc (.cells cs T)).drew.cell? ⟨n, j, none⟩ = some v := ct hn h

/-- A cell of a new block, later. -/
theorem bx {W w1 : World} {cs : Array Value} {T : TypeId} {n j : Nat} {v : Value} {r : Option Nat} (g : (W.alloc (.cells cs T)).grownBy w1 r) (hr : some n ≠ r) (hn : n = W.heap.size) (h : cs[j]? = some v) : w1.cell? ⟨n, j, none⟩ = some v :=
  (World.cell?_of_block (g.block n (by rw [hn]; simp) hr)).trans (ct hn h)

theorem newer_or (b o : Hd) : newer b o = (decide (or2 (cmpI b.av o.av) (cmpI b.sq o.sq) > 0) || (decide (or2 (cmpI b.av o.av) (cmpI b.sq o.sq) = 0) && decide (or2 (cmpI b.tg o.tg) (or2 (cmpI b.ti o.ti) (cmpI b.tc o.tc)) > 0))) := by
  have key : ∀ x y : Int, (x < y ∧ cmpI x y = -1) ∨ (x = y ∧ cmpI x y = 0) ∨ (y < x ∧ cmpI x y = 1) := fun x y => by
    unfold cmpI
    rcases Int.lt_trichotomy x y with h | h | h
    · exact Or.inl ⟨h, if_pos h⟩
    · subst h; exact Or.inr (Or.inl ⟨rfl, by simp⟩)
    · exact Or.inr (Or.inr ⟨h, by rw [if_neg (by omega), if_pos h]⟩)
  unfold newer
  rcases key b.av o.av with ⟨h1, e1⟩ | ⟨h1, e1⟩ | ⟨h1, e1⟩
  · rw [if_pos (by omega), e1]; simp [or2]; omega
  · rw [if_neg (by omega), e1]
    rcases key b.sq o.sq with ⟨h2, e2⟩ | ⟨h2, e2⟩ | ⟨h2, e2⟩
    · rw [if_pos (by omega), e2]; simp [or2]; omega
    · rw [if_neg (by omega), e2]
      rcases key b.tg o.tg with ⟨h3, e3⟩ | ⟨h3, e3⟩ | ⟨h3, e3⟩
      · rw [if_pos (by omega), e3]; simp [or2]; omega
      · rw [if_neg (by omega), e3]
        rcases key b.ti o.ti with ⟨h4, e4⟩ | ⟨h4, e4⟩ | ⟨h4, e4⟩
        · rw [if_pos (by omega), e4]; simp [or2]; omega
        · rw [if_neg (by omega), e4]
          rcases key b.tc o.tc with ⟨h5, e5⟩ | ⟨h5, e5⟩ | ⟨h5, e5⟩
          · rw [if_pos (by omega), e5]; simp [or2]; omega
          · rw [if_neg (by omega), e5]; simp [or2]
          · rw [if_pos (by omega), e5]; simp [or2]; omega
        · rw [if_pos (by omega), e4]; simp [or2]; omega
      · rw [if_pos (by omega), e3]; simp [or2]; omega
    · rw [if_pos (by omega), e2]; simp [or2]; omega
  · rw [if_pos (by omega), e1]; simp [or2]; omega

set_option maxHeartbeats 1600000 in
set_option maxRecDepth 100000 in
theorem stamps_u (a b a' b' : Int) (w : World) : Calls Yba.prog 31 #[.agg #[.int .u64 a, .int .u64 b], .agg #[.int .u64 a', .int .u64 b']] w fun e w' => e = .returned (.int .i64 (or2 (cmpI a a') (cmpI b b'))) ∧ w.grownBy w' none := by
  have H1 : Hid (∀ x y w, Calls Yba.prog 66 #[.int .u64 x, .int .u64 y] w fun e w' => e = .returned (.int .i64 (cmpI x y)) ∧ w' = w) := cmp64_u
  go_enter Yba.func31, Yba.ntmps31
  go_wp2_with fail
  go_region_held3 (fun wq => wq.cell? ⟨w.heap.size, 0, none⟩ = some (.int .u64 a) ∧ wq.cell? ⟨w.heap.size, 1, none⟩ = some (.int .u64 b) ∧ wq.cell? ⟨w.heap.size + 1, 0, none⟩ = some (.int .u64 a') ∧ wq.cell? ⟨w.heap.size + 1, 1, none⟩ = some (.int .u64 b')) (go_keep) (first
    | (go_at_call 66; refine (H1.out _ _ _).mono ?_; rintro e w' ⟨rfl, rfl⟩)
    | (go_at_call 41; refine (or2_u _ _ (cmpI a a') (cmpI b b') _ (ctd (by simp) rfl) (ctd (by simp) rfl)).mono ?_; rintro e w' ⟨rfl, rfl⟩))
  all_goals go_wp2_with fail
  go_ret
  exact ⟨rfl, gD (gtr (gA2 _ _ _) (gA _ _)) 1⟩

set_option maxHeartbeats 3200000 in
set_option maxRecDepth 100000 in
theorem tags_u (a b c a' b' c' : Int) (w : World) : Calls Yba.prog 32 #[.agg #[.int .u32 a, .int .u64 b, .int .u64 c], .agg #[.int .u32 a', .int .u64 b', .int .u64 c']] w fun e w' => e = .returned (.int .i64 (or2 (cmpI a a') (or2 (cmpI b b') (cmpI c c')))) ∧ w.grownBy w' none := by
  have H1 : Hid (∀ x y w, Calls Yba.prog 66 #[.int .u64 x, .int .u64 y] w fun e w' => e = .returned (.int .i64 (cmpI x y)) ∧ w' = w) := cmp64_u
  have H2 : Hid (∀ x y w, Calls Yba.prog 43 #[.int .u32 x, .int .u32 y] w fun e w' => e = .returned (.int .i64 (cmpI x y)) ∧ w' = w) := cmp32_u
  go_enter Yba.func32, Yba.ntmps32
  go_wp2_with fail
  go_region_held3 (fun wq => wq.cell? ⟨w.heap.size, 0, none⟩ = some (.int .u32 a) ∧ wq.cell? ⟨w.heap.size, 1, none⟩ = some (.int .u64 b) ∧ wq.cell? ⟨w.heap.size, 2, none⟩ = some (.int .u64 c) ∧ wq.cell? ⟨w.heap.size + 1, 0, none⟩ = some (.int .u32 a') ∧ wq.cell? ⟨w.heap.size + 1, 1, none⟩ = some (.int .u64 b') ∧ wq.cell? ⟨w.heap.size + 1, 2, none⟩ = some (.int .u64 c')) (go_keep) (first
    | (go_at_call 66; refine (H1.out _ _ _).mono ?_; rintro e w' ⟨rfl, rfl⟩)
    | (go_at_call 43; refine (H2.out _ _ _).mono ?_; rintro e w' ⟨rfl, rfl⟩)
    | (go_at_call 41; refine (or3_u _ _ (cmpI a a') (cmpI b b') (cmpI c c') _ (ctd (by simp) rfl) (ctd (by simp) rfl) (ctd (by simp) rfl)).mono ?_; rintro e w' ⟨rfl, rfl⟩))
  all_goals go_wp2_with fail
  go_ret
  exact ⟨rfl, gD (gtr (gA2 _ _ _) (gA _ _)) 1⟩

set_option maxHeartbeats 3200000 in
set_option maxRecDepth 100000 in
theorem newer_u (b o : Hd) (p q : Value) (w : World) : Calls Yba.prog 20 #[b.val p, o.val q] w fun e w' => e = .returned (.bool (newer b o)) ∧ w.grownBy w' none := by
  rw [newer_or]
  obtain ⟨nm, sz, vw, h0, h1, h2, h3, h4, h5, tg, ti, tc, av, sq, rm⟩ := b
  obtain ⟨nm', sz', vw', h0', h1', h2', h3', h4', h5', tg', ti', tc', av', sq', rm'⟩ := o
  simp only [Hd.val]
  have H1 : Hid (∀ w, Calls Yba.prog 31 #[.agg #[.int .u64 av, .int .u64 sq], .agg #[.int .u64 av', .int .u64 sq']] w fun e w' => e = .returned (.int .i64 (or2 (cmpI av av') (cmpI sq sq'))) ∧ w.grownBy w' none) := stamps_u _ _ _ _
  have H2 : Hid (∀ w, Calls Yba.prog 32 #[.agg #[.int .u32 tg, .int .u64 ti, .int .u64 tc], .agg #[.int .u32 tg', .int .u64 ti', .int .u64 tc']] w fun e w' => e = .returned (.int .i64 (or2 (cmpI tg tg') (or2 (cmpI ti ti') (cmpI tc tc')))) ∧ w.grownBy w' none) := tags_u _ _ _ _ _ _
  generalize or2 (cmpI av av') (cmpI sq sq') = X at *
  generalize or2 (cmpI tg tg') (or2 (cmpI ti ti') (cmpI tc tc')) = Y at *
  go_enter Yba.func20, Yba.ntmps20
  go_upto_region 2 with (go_at_call 31; refine (H1.out _).mono ?_; rintro e w1 ⟨rfl, g1⟩)
  have G1 : Hid (w.grownBy w1 none) := gtr (gA2 _ _ _) g1
  have g0 := gtr (gA _ _) g1
  have c1 : w1.cell? ⟨w.heap.size, 9, none⟩ = some (.int .u32 tg) := bx g0 (by simp) rfl rfl
  have c2 : w1.cell? ⟨w.heap.size, 10, none⟩ = some (.int .u64 ti) := bx g0 (by simp) rfl rfl
  have c3 : w1.cell? ⟨w.heap.size, 11, none⟩ = some (.int .u64 tc) := bx g0 (by simp) rfl rfl
  have c4 : w1.cell? ⟨w.heap.size + 1, 9, none⟩ = some (.int .u32 tg') := bx g1 (by simp) (by simp) rfl
  have c5 : w1.cell? ⟨w.heap.size + 1, 10, none⟩ = some (.int .u64 ti') := bx g1 (by simp) (by simp) rfl
  have c6 : w1.cell? ⟨w.heap.size + 1, 11, none⟩ = some (.int .u64 tc') := bx g1 (by simp) (by simp) rfl
  clear g0 g1
  by_cases x1 : X > 0
  · go_wp2_with fail
    go_ret
    exact ⟨by simp <;> omega, G1.out⟩
  · by_cases x0 : X = 0
    · go_wp2_with (go_at_call 32; refine (H2.out _).mono ?_; rintro e w2 ⟨rfl, g2⟩)
      go_ret
      exact ⟨by simp [x0], gtr G1.out g2⟩
    · go_wp2_with fail
      go_ret
      exact ⟨by simp <;> omega, G1.out⟩
end Go.Proofs.Ybulkdbmw

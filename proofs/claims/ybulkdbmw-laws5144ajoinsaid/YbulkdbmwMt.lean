import Derived.Test.YbulkdbmwWf
namespace Go.Proofs.Ybulkdbmw
open Go Go.RowKit Go.Sort Go.Shelf Go.Lib

def mg (b o : Hd × List Int) : Hd × List Int := (b.1, mgl b.1 o.1 b.2 o.2)
def meetF (c : Option (Hd × List Int)) (b : Hd × List Int) : Hd × List Int :=
  match c with
  | none => b
  | some cur => if newer b.1 cur.1 then mg b cur else mg cur b

set_option maxHeartbeats 3200000 in
set_option maxRecDepth 100000 in
theorem meet_u (mb n : Nat) (F : Ent) (i : Nat) (hi : i < 8) (h : Hd) (p : Value) (l : List Int) (w : World) (hc : Cat w mb n F) (hp : Pl w p l) (hn : h.nm = nmB i) (hl : l.length < 1000) (hF : ∀ x, F i = some x → x.2.length < 1000) :
    Calls Yba.prog 10 #[.map (some mb), h.val p] w fun e w' => ∃ v, e = .returned ((meetF (F i) (h, l)).1.val v) ∧ Pl w' v (meetF (F i) (h, l)).2 ∧ w.grownBy w' none := by
  go_enter Yba.func10, Yba.ntmps10
  go_upto_region 1 with (first | (refine bo_u rfl (.tmp 1) rfl h p rfl ?_; intro w1 x1 g1 s1) | (refine al_u rfl rfl ?_; intro w2 x2 g2 s2))
  rw [s1] at *
  have X1 := x1.f0 g2
  have G2 := gtr g1 g2
  have c0 : w2.cell? ⟨w.heap.size, 0, none⟩ = some (.string (nmB i)) := by rw [← hn]; exact X1.cell rfl
  have C2 := hc.f0 G2
  clear x1 g1 g2
  go_upto_region 3 with (first
    | (refine look_ok_u _ rfl _ _ rfl mb n F i hi rfl rfl C2 ?_; intro hd ld pd hpd hlv)
    | (refine al_u rfl rfl ?_; intro w3 x3 g3 s3)
    | (refine st_u rfl _ _ rfl _ rfl hd pd rfl x3 hpd.sl ?_; intro w4 x4 g4 s4))
  have X4 : Bx w4 (w.heap.size + 1 + 1) hd pd := by rw [← s2]; exact x4
  clear x4
  have Y1 := (X1.f0 g3).fr g4 (by simp; omega)
  have Y2 := (x2.f0 g3).fr g4 (by simp; omega)
  have G4 : w.grownBy w4 none := gnew (gtr G2 g3) g4 (fun k e => by cases e; omega)
  have hp4 : Pl w4 p l := hp.f0 G4
  have hpd4 : Pl w4 pd ld := hpd.f0 (gnew g3 g4 (fun k e => by cases e; exact Nat.le_refl _))
  clear X1 x2 x3 G2 C2 c0 g3 g4
  rcases hlv with ⟨hFi, hnm⟩ | ⟨hFi, rfl, rfl⟩
  · rw [hFi]
    have hld := hF _ hFi
    have HN : Hid (Calls Yba.prog 20 #[h.val p, hd.val pd] w4 fun e w' => e = .returned (.bool (newer h hd)) ∧ w4.grownBy w' none) := newer_u h hd p pd w4
    go_upto_region 5 with fail
    go_upto_if 21 with (first
      | (refine ld_u rfl (.tmp 3) rfl _ rfl Y1 ?_; go_frame)
      | (refine ld_u rfl (.tmp 5) rfl _ rfl X4 ?_; go_frame)
      | (go_at_call 20; refine Calls.mono HN.out ?_; rintro e w5 ⟨rfl, g5⟩))
    have Z1 := Y1.f0 g5
    have Z2 := Y2.f0 g5
    have Z4 := X4.f0 g5
    have G5 := gtr G4 g5
    have hp5 := hp4.f0 g5
    have hpd5 := hpd4.f0 g5
    clear Y1 Y2 X4 G4 HN g5
    by_cases hnw : newer h hd = true
    · have hm : meetF (F i) (h, l) = (h, mgl h hd l ld) := by rw [hFi]; simp [meetF, hnw, mg]
      have HW : Hid (Calls Yba.prog 21 #[h.val p, hd.val pd] w5 fun e w' => ∃ v, e = .returned (h.val v) ∧ Pl w' v (mgl h hd l ld) ∧ w5.grownBy w' none ∧ ∀ k, v.ownBlock = some k → w5.heap.size ≤ k) := waitFor_u h hd p pd l ld w5 hp5 hpd5 hl hld
      rw [hnw]
      go_wp2_with (first
        | (refine ld_u rfl (.tmp 3) rfl _ rfl Z1 ?_; go_frame)
        | (refine ld_u rfl (.tmp 5) rfl _ rfl Z4 ?_; go_frame)
        | (go_at_call 21; refine Calls.mono HW.out ?_; rintro e w6 ⟨v6, rfl, hp6, g6, hk6⟩)
        | (refine st_u rfl _ _ rfl _ rfl h v6 rfl (Z2.f0 g6) hp6.sl ?_; intro w7 x7 g7 s7))
      (try simp only [Exit.inBlock, Exit.then]); refine bodyPost_ret (ret39 rfl _ _ rfl x7) rfl ?_
      have hp7 : Pl w7 v6 _ := hp6.fb g7 (fun k hk e => by cases e; have := hk6 _ hk; have := Z4.lt; omega)
      rw [hm]
      exact ⟨v6, rfl, hp7, gnew (gtr G5 g6) g7 (fun k e => by cases e; omega)⟩
    · have hnw' : newer h hd = false := by simpa using hnw
      have hm : meetF (F i) (h, l) = (hd, mgl hd h ld l) := by rw [hFi]; simp [meetF, hnw, mg]
      have HW : Hid (Calls Yba.prog 21 #[hd.val pd, h.val p] w5 fun e w' => ∃ v, e = .returned (hd.val v) ∧ Pl w' v (mgl hd h ld l) ∧ w5.grownBy w' none ∧ ∀ k, v.ownBlock = some k → w5.heap.size ≤ k) := waitFor_u hd h pd p ld l w5 hpd5 hp5 hld hl
      rw [hnw']
      go_wp2_with (first
        | (refine ld_u rfl (.tmp 3) rfl _ rfl Z1 ?_; go_frame)
        | (refine ld_u rfl (.tmp 5) rfl _ rfl Z4 ?_; go_frame)
        | (go_at_call 21; refine Calls.mono HW.out ?_; rintro e w6 ⟨v6, rfl, hp6, g6, hk6⟩)
        | (refine st_u rfl _ _ rfl _ rfl hd v6 rfl (Z2.f0 g6) hp6.sl ?_; intro w7 x7 g7 s7))
      (try simp only [Exit.inBlock, Exit.then]); refine bodyPost_ret (ret39 rfl _ _ rfl x7) rfl ?_
      have hp7 : Pl w7 v6 _ := hp6.fb g7 (fun k hk e => by cases e; have := hk6 _ hk; have := Z4.lt; omega)
      rw [hm]
      exact ⟨v6, rfl, hp7, gnew (gtr G5 g6) g7 (fun k e => by cases e; omega)⟩
  · rw [hFi]
    go_wp2_with (first
      | (refine ld_u rfl (.tmp 3) rfl _ rfl Y1 ?_; go_frame)
      | (refine st_u rfl _ _ rfl _ rfl h p rfl Y2 hp4.sl ?_; intro w7 x7 g7 s7))
    (try simp only [Exit.inBlock, Exit.then]); refine bodyPost_ret (ret39 rfl _ _ rfl x7) rfl ?_
    have G7 := gnew G4 g7 (fun k e => by cases e; omega)
    exact ⟨p, rfl, hp.f0 G7, G7⟩
end Go.Proofs.Ybulkdbmw

import Derived.Test.YbulkdbmwMt
import Derived.Deep.RegionHeld3
namespace Go.Proofs.Ybulkdbmw
open Go Go.RowKit Go.Sort Go.Shelf Go.Lib

theorem Bx.all {wq : World} {B : Nat} {h : Hd} {pd : Value} (x : Bx wq B h pd) : wq.cell? ⟨B, 0, none⟩ = some (.string h.nm) ∧ wq.cell? ⟨B, 1, none⟩ = some (.int .u64 h.sz) ∧ wq.cell? ⟨B, 2, none⟩ = some (.int .u64 h.vw) ∧ wq.cell? ⟨B, 3, none⟩ = some (.int .u32 h.h0) ∧ wq.cell? ⟨B, 4, none⟩ = some (.int .u32 h.h1) ∧ wq.cell? ⟨B, 5, none⟩ = some (.int .u32 h.h2) ∧ wq.cell? ⟨B, 6, none⟩ = some (.int .u32 h.h3) ∧ wq.cell? ⟨B, 7, none⟩ = some (.int .u32 h.h4) ∧ wq.cell? ⟨B, 8, none⟩ = some (.int .u32 h.h5) ∧ wq.cell? ⟨B, 9, none⟩ = some (.int .u32 h.tg) ∧ wq.cell? ⟨B, 10, none⟩ = some (.int .u64 h.ti) ∧ wq.cell? ⟨B, 11, none⟩ = some (.int .u64 h.tc) ∧ wq.cell? ⟨B, 12, none⟩ = some (.int .u64 h.av) ∧ wq.cell? ⟨B, 13, none⟩ = some (.int .u64 h.sq) ∧ wq.cell? ⟨B, 14, none⟩ = some (.bool h.rm) ∧ wq.cell? ⟨B, 15, none⟩ = some (pd) :=
  ⟨x.cell rfl, x.cell rfl, x.cell rfl, x.cell rfl, x.cell rfl, x.cell rfl, x.cell rfl, x.cell rfl, x.cell rfl, x.cell rfl, x.cell rfl, x.cell rfl, x.cell rfl, x.cell rfl, x.cell rfl, x.cell rfl⟩

theorem wr64 (x : Int) (h1 : -1000000000 ≤ x) (h2 : x ≤ 1000000000) : IntKind.i64.wrap x = x := by
  simp [IntKind.wrap, IntKind.bits, IntKind.signed]
  omega

set_option maxHeartbeats 3200000 in
set_option maxRecDepth 100000 in
theorem room_u (h : Hd) (p : Value) (l : List Int) (w : World) (hp : Pl w p l) (hl : l.length < 1000) (hn : h.nm.size = 1) :
    Calls Yba.prog 37 #[h.val p] w fun e w' => ∃ r : Int, e = .returned (.int .i64 r) ∧ 0 ≤ r ∧ r ≤ 81 + 4 * l.length ∧ w.grownBy w' none := by
  go_enter Yba.func37, Yba.ntmps37
  go_upto_region 1 with (refine bo_u rfl (.tmp 0) rfl h p rfl ?_; intro w1 x1 g1 s1)
  have hll := listed_len h l
  have HL : Hid (∀ wq, w1.grownBy wq none → Calls Yba.prog 22 #[h.val p] wq fun e w' => ∃ v, e = .returned v ∧ Pl w' v (listedOf h l) ∧ wq.grownBy w' none) := fun wq g => listed_u h p l wq ((hp.f0 g1).f0 g) (by omega)
  have HX : Hid (Bx w1 w.heap.size h p) := x1
  have HG : Hid (w.grownBy w1 none) := g1
  simp only [Hd.val] at HL
  clear x1 g1
  generalize hm : (listedOf h l).length = m at *
  go_region_held3 (fun wq => wq.cell? ⟨w.heap.size, 0, none⟩ = some (.string h.nm) ∧ wq.cell? ⟨w.heap.size, 1, none⟩ = some (.int .u64 h.sz) ∧ wq.cell? ⟨w.heap.size, 2, none⟩ = some (.int .u64 h.vw) ∧ wq.cell? ⟨w.heap.size, 3, none⟩ = some (.int .u32 h.h0) ∧ wq.cell? ⟨w.heap.size, 4, none⟩ = some (.int .u32 h.h1) ∧ wq.cell? ⟨w.heap.size, 5, none⟩ = some (.int .u32 h.h2) ∧ wq.cell? ⟨w.heap.size, 6, none⟩ = some (.int .u32 h.h3) ∧ wq.cell? ⟨w.heap.size, 7, none⟩ = some (.int .u32 h.h4) ∧ wq.cell? ⟨w.heap.size, 8, none⟩ = some (.int .u32 h.h5) ∧ wq.cell? ⟨w.heap.size, 9, none⟩ = some (.int .u32 h.tg) ∧ wq.cell? ⟨w.heap.size, 10, none⟩ = some (.int .u64 h.ti) ∧ wq.cell? ⟨w.heap.size, 11, none⟩ = some (.int .u64 h.tc) ∧ wq.cell? ⟨w.heap.size, 12, none⟩ = some (.int .u64 h.av) ∧ wq.cell? ⟨w.heap.size, 13, none⟩ = some (.int .u64 h.sq) ∧ wq.cell? ⟨w.heap.size, 14, none⟩ = some (.bool h.rm) ∧ wq.cell? ⟨w.heap.size, 15, none⟩ = some p) (first | exact HX.out.all | exact ((show Bx w1.drew w.heap.size h p from HX.out).f0 hgv).all) (first
    | (go_at_call 22; refine Calls.mono (HL.out _ (gD (grf _ _) 1)) ?_; rintro e w' ⟨v, rfl, hpv, hgv⟩; obtain ⟨va, vc, rfl⟩ := hpv.len))
  go_wp2_with fail
  go_ret
  have e1 := wr64 81 (by omega) (by omega)
  have e2 := wr64 (4 * (m : Int)) (by omega) (by omega)
  have e3 := wr64 (81 + 4 * (m : Int)) (by omega) (by omega)
  exact ⟨_, rfl, by rw [e1, e2, e3]; omega, by rw [e1, e2, e3]; omega, gtr (gD HG.out 1) hgv⟩

def Bd (F : Ent) : Prop := ∀ i x, F i = some x → x.2.length ≤ 600

set_option maxHeartbeats 3200000 in
set_option maxRecDepth 100000 in
theorem size_u (mb n : Nat) (F : Ent) (w : World) (hc : Cat w mb n F) (hB : Bd F) :
    Calls Yba.prog 36 #[.map (some mb)] w fun e w' => ∃ r : Int, e = .returned (.int .i64 r) ∧ 0 ≤ r ∧ r ≤ 20000 ∧ w.grownBy w' none := by
  have hmb := hc.lt
  go_enter Yba.func36, Yba.ntmps36
  go_wp2_with (at_range; refine range_u _ rfl _ rfl mb n F rfl hc ?_; intro w1 hr1 g1 s1)
  go_frame
  have hc8 := cnt_le F 8
  go_loopw [3] (fun v3 wr => ∃ (c : Nat) (s : Int), v3 = .int .i64 s ∧ 4 ≤ s ∧ s ≤ 4 + (8 - (c : Int)) * 2481 ∧ c ≤ 8 ∧ CatR wr mb w.heap.size n F c ∧ w.grownBy wr none) (fun _ wr => wr.rangeLeft mb w.heap.size)
  case atStart => exact ⟨cnt F 8, 4, rfl, by omega, by omega, hc8, hr1, g1⟩
  case round =>
    obtain ⟨c, s, rfl, hs4, hs, hc', hrg, G⟩ := hrel
    have hleft := hrg.left_eq
    go_upto_region 4 with (at_next; refine next_u _ rfl _ rfl mb w.heap.size n c F rfl hrg (fun h0 => ?_) (fun i hd l pd w2 c2 hi hF hp hnm hrg2 hlt hg2 hs2 hen => ?_))
    · go_wp2_with fail
      go_ret
      exact ⟨_, rfl, by omega, by omega, G⟩
    · have hl6 := hB i _ hF
      have hn1 : hd.nm.size = 1 := by rw [hnm]; rfl
      have HR : Hid (∀ wz, Pl wz pd l → Calls Yba.prog 37 #[hd.val pd] wz fun e w' => ∃ r : Int, e = .returned (.int .i64 r) ∧ 0 ≤ r ∧ r ≤ 81 + 4 * l.length ∧ wz.grownBy w' none) := fun wz hz => room_u hd pd l wz hz (by dsimp only at hl6; omega) hn1
      have g02 : w.grownBy w2 none := gnew G hg2 (fun k e => by cases e; exact Nat.le_refl _)
      clear hg2 hn1 hF hrg G hc hr1 g1 hs2
      dsimp only at hl6
      go_wp2_with (first
        | (refine al_u rfl rfl ?_; intro w3 x3 g3 s3)
        | (refine st_u rfl _ _ rfl _ rfl hd pd rfl x3 hp.sl ?_; intro w4 x4 g4 s4)
        | (refine ld_u rfl _ rfl _ rfl x4 ?_; go_frame)
        | (go_at_call 37; refine Calls.mono (HR.out _ (hp.f0 (gnew g3 g4 (fun k e => by cases e; exact Nat.le_refl _)))) ?_; rintro e w5 ⟨r, rfl, hr0, hr1, g5⟩))
      go_roundw
      case rel =>
        have g25 : w2.grownBy w5 none := gtr (gnew g3 g4 (fun k e => by cases e; exact Nat.le_refl _)) g5
        refine ⟨c2, _, rfl, ?_, ?_, by omega, hrg2.f0 g25, gtr g02 g25⟩
        · omega
        · omega
      case measure =>
        have g25 : w2.grownBy w5 none := gtr (gnew g3 g4 (fun k e => by cases e; exact Nat.le_refl _)) g5
        rw [(hrg2.f0 g25).left_eq, hleft]
        exact hlt
end Go.Proofs.Ybulkdbmw

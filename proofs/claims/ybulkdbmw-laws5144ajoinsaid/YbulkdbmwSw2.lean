import Derived.Test.YbulkdbmwSz
namespace Go.Proofs.Ybulkdbmw
open Go Go.RowKit Go.Sort Go.Shelf Go.Lib

set_option maxHeartbeats 3200000 in
set_option maxRecDepth 100000 in
theorem sizeWith_u (mb n : Nat) (F : Ent) (i : Nat) (hi : i < 8) (h : Hd) (p : Value) (l : List Int) (w : World) (hc : Cat w mb n F) (hB : Bd F) (hp : Pl w p l) (hl : l.length ≤ 600) (hn : h.nm = nmB i) :
    Calls Yba.prog 23 #[.map (some mb), h.val p] w fun e w' => ∃ r : Int, e = .returned (.int .i64 r) ∧ -5000 ≤ r ∧ r ≤ 30000 ∧ w.grownBy w' none := by
  have hn1 : h.nm.size = 1 := by rw [hn]; rfl
  go_enter Yba.func23, Yba.ntmps23
  go_upto_region 1 with (refine bo_u rfl (.tmp 1) rfl h p rfl ?_; intro w1 x1 g1 s1)
  have HL6 : Hid (∀ wq, w1.grownBy wq none → Calls Yba.prog 36 #[.map (some mb)] wq fun e w' => ∃ r : Int, e = .returned (.int .i64 r) ∧ 0 ≤ r ∧ r ≤ 20000 ∧ wq.grownBy w' none) := fun wq g => size_u mb n F wq ((hc.f0 g1).f0 g) hB
  have HL7 : Hid (∀ wq, w1.grownBy wq none → Calls Yba.prog 37 #[h.val p] wq fun e w' => ∃ r : Int, e = .returned (.int .i64 r) ∧ 0 ≤ r ∧ r ≤ 81 + 4 * l.length ∧ wq.grownBy w' none) := fun wq g => room_u h p l wq ((hp.f0 g1).f0 g) (by omega) hn1
  have HX : Hid (Bx w1 w.heap.size h p) := x1
  have HG : Hid (w.grownBy w1 none) := g1
  have HCT : Hid (Cat w mb n F) := hc
  have HB : Hid (Bd F) := hB
  have HN : Hid (h.nm = nmB i) := hn
  simp only [Hd.val] at HL7
  clear x1 g1 hc hB hn hn1
  go_cut [5] (fun s5 wx => ∃ r : Int, s5 = .int .i64 r ∧ 0 ≤ r ∧ r ≤ 25000 ∧ w1.grownBy wx none)
  case first =>
    go_region_held3 (fun wq => wq.cell? ⟨w.heap.size, 0, none⟩ = some (.string h.nm) ∧ wq.cell? ⟨w.heap.size, 1, none⟩ = some (.int .u64 h.sz) ∧ wq.cell? ⟨w.heap.size, 2, none⟩ = some (.int .u64 h.vw) ∧ wq.cell? ⟨w.heap.size, 3, none⟩ = some (.int .u32 h.h0) ∧ wq.cell? ⟨w.heap.size, 4, none⟩ = some (.int .u32 h.h1) ∧ wq.cell? ⟨w.heap.size, 5, none⟩ = some (.int .u32 h.h2) ∧ wq.cell? ⟨w.heap.size, 6, none⟩ = some (.int .u32 h.h3) ∧ wq.cell? ⟨w.heap.size, 7, none⟩ = some (.int .u32 h.h4) ∧ wq.cell? ⟨w.heap.size, 8, none⟩ = some (.int .u32 h.h5) ∧ wq.cell? ⟨w.heap.size, 9, none⟩ = some (.int .u32 h.tg) ∧ wq.cell? ⟨w.heap.size, 10, none⟩ = some (.int .u64 h.ti) ∧ wq.cell? ⟨w.heap.size, 11, none⟩ = some (.int .u64 h.tc) ∧ wq.cell? ⟨w.heap.size, 12, none⟩ = some (.int .u64 h.av) ∧ wq.cell? ⟨w.heap.size, 13, none⟩ = some (.int .u64 h.sq) ∧ wq.cell? ⟨w.heap.size, 14, none⟩ = some (.bool h.rm) ∧ wq.cell? ⟨w.heap.size, 15, none⟩ = some p) (first | exact HX.out.all | exact ((show Bx w1.drew w.heap.size h p from HX.out).f0 hg6).all | exact ((show Bx w1.drew w.heap.size h p from HX.out).f0 hg7).all | exact (((show Bx w1.drew w.heap.size h p from HX.out).f0 hg6).f0 hg7).all | exact (((show Bx w1.drew w.heap.size h p from HX.out).f0 hg7).f0 hg6).all) (first
      | (go_at_call 36; refine Calls.mono (HL6.out _ (by first | exact gD (grf _ _) 1 | exact gtr (gD (grf _ _) 1) hg7)) ?_; rintro e w6 ⟨r6, rfl, hr6, hr6', hg6⟩)
      | (go_at_call 37; refine Calls.mono (HL7.out _ (by first | exact gD (grf _ _) 1 | exact gtr (gD (grf _ _) 1) hg6)) ?_; rintro e w7 ⟨r7, rfl, hr7, hr7', hg7⟩))
    all_goals (go_wp2_with fail; go_meet)
    · have e3 := wr64 (r6 + r7) (by omega) (by omega)
      exact ⟨_, rfl, by first | omega | (rw [e3]; omega), by first | omega | (rw [e3]; omega), gtr (gD (grf _ _) 1) (gtr hg6 hg7)⟩
  case rest =>
    obtain ⟨r, rfl, hr0, hr1, g2⟩ := hcut
    obtain ⟨w2, hw⟩ : ∃ w2, w2 = wc := ⟨_, rfl⟩
    subst hw
    have X2 := HX.out.f0 g2
    have G2 := gtr HG.out g2
    have C2 := HCT.out.f0 G2
    have c0 : w2.cell? ⟨w.heap.size, 0, none⟩ = some (.string (nmB i)) := by rw [← HN.out]; exact X2.cell rfl
    have hbd := HB.out i
    clear HL6 HL7 HX HG HCT HB HN g2
    go_upto_region 3 with (first
      | (refine look_ok_u _ rfl _ _ rfl mb n F i hi rfl rfl C2 ?_; intro hd ld pd hpd hlv)
      | (refine al_u rfl rfl ?_; intro w3 x3 g3 s3)
      | (refine st_u rfl _ _ rfl _ rfl hd pd rfl x3 hpd.sl ?_; intro w4 x4 g4 s4))
    have g24 : w2.grownBy w4 none := gnew g3 g4 (fun k e => by cases e; exact Nat.le_refl _)
    have G4 := gtr G2 g24
    rcases hlv with ⟨hFi, hnm⟩ | ⟨hFi, rfl, rfl⟩
    · rw [hFi]
      have hld : ld.length ≤ 600 := hbd _ hFi
      have HR : Hid (Calls Yba.prog 37 #[hd.val pd] w4 fun e w' => ∃ r : Int, e = .returned (.int .i64 r) ∧ 0 ≤ r ∧ r ≤ 81 + 4 * ld.length ∧ w4.grownBy w' none) := room_u hd pd ld w4 (hpd.f0 g24) (by omega) (by rw [hnm]; rfl)
      clear hbd X2 C2
      go_wp2_with (first
        | (refine ld_u rfl _ rfl _ rfl x4 ?_; go_frame)
        | (go_at_call 37; refine Calls.mono HR.out ?_; rintro e w5 ⟨r5, rfl, hr5, hr5', g5⟩))
      go_ret
      exact ⟨_, rfl, by omega, by omega, gtr G4 g5⟩
    · rw [hFi]
      clear hbd X2 C2
      go_wp2_with fail
      go_ret
      exact ⟨_, rfl, by omega, by omega, G4⟩
end Go.Proofs.Ybulkdbmw

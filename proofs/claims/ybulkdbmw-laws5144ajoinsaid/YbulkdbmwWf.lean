import Derived.Test.YbulkdbmwMg
import Derived.Deep.CutRange
namespace Go.Proofs.Ybulkdbmw
open Go Go.RowKit Go.Sort Go.Shelf Go.Lib

/-- The cells that the tests read. -/
structure Cf (w : World) (b : Nat) (h : Hd) (pd : Value) : Prop where
  tg : w.cell? ⟨b, 9, none⟩ = some (.int .u32 h.tg)
  ti : w.cell? ⟨b, 10, none⟩ = some (.int .u64 h.ti)
  tc : w.cell? ⟨b, 11, none⟩ = some (.int .u64 h.tc)
  av : w.cell? ⟨b, 12, none⟩ = some (.int .u64 h.av)
  sq : w.cell? ⟨b, 13, none⟩ = some (.int .u64 h.sq)
  rm : w.cell? ⟨b, 14, none⟩ = some (.bool h.rm)
  pd : w.cell? ⟨b, 15, none⟩ = some pd
theorem Bx.cf {w : World} {b : Nat} {h : Hd} {pd : Value} (x : Bx w b h pd) : Cf w b h pd := ⟨x.cell rfl, x.cell rfl, x.cell rfl, x.cell rfl, x.cell rfl, x.cell rfl, x.cell rfl⟩

def cd1 (b o : Hd) : Bool := decide (o.rm = true ∧ b.rm = false ∧ o.av = b.av ∧ o.sq = b.sq)
def cd2 (b o : Hd) : Bool := decide (o.rm = false ∧ (¬ (o.av = b.av ∧ o.sq = b.sq) ∨ ¬ (o.tg = b.tg ∧ o.ti = b.ti ∧ o.tc = b.tc)))

set_option maxHeartbeats 3200000 in
set_option maxRecDepth 100000 in
theorem waitFor_u (b o : Hd) (p q : Value) (lb lo : List Int) (w : World) (hp : Pl w p lb) (hq : Pl w q lo) (h1 : lb.length < 1000) (h2 : lo.length < 1000) :
    Calls Yba.prog 21 #[b.val p, o.val q] w fun e w' => ∃ v, e = .returned (b.val v) ∧ Pl w' v (mgl b o lb lo) ∧ w.grownBy w' none ∧ ∀ k, v.ownBlock = some k → w.heap.size ≤ k := by
  go_enter Yba.func21, Yba.ntmps21
  go_upto_region 1 with (first | (refine bo_u rfl (.tmp 0) rfl b p rfl ?_; intro w1 x1 g1 s1) | (refine bo_u rfl (.tmp 1) rfl o q rfl ?_; intro w2 x2 g2 s2) | (refine al_u rfl rfl ?_; intro w3 x3 g3 s3))
  rw [s1] at *
  rw [s2] at *
  have X1 := x1.f0 (gtr g2 g3)
  have X2 := x2.f0 g3
  have G3 := gtr g1 (gtr g2 g3)
  clear x1 x2 g1 g2 g3
  obtain ⟨o9, o10, o11, o12, o13, o14, o15⟩ := X2.cf
  obtain ⟨b9, b10, b11, b12, b13, b14, b15⟩ := X1.cf
  go_upto_region 2 with fail
  go_cut [22] (fun s22 wx => s22 = .bool (cd1 b o) ∧ wx = w3)
  case first =>
    go_wp2_with fail
    all_goals go_meet
    all_goals exact ⟨by simp [cd1, *], rfl⟩
  case rest =>
    obtain ⟨rfl, hw⟩ := hcut
    rw [hw]
    clear hw wc
    go_upto_if 22 with fail
    go_cut [5] (fun s5 wx => Pl wx s5 (othersOf b o lo) ∧ w3.grownBy wx none)
    case first =>
      by_cases hc : cd1 b o = true
      · have hr : o.rm = true := (of_decide_eq_true hc).1
        have HL : Hid (Calls Yba.prog 22 #[o.val q] w3 fun e w' => ∃ v, e = .returned v ∧ Pl w' v (othersOf b o lo) ∧ w3.grownBy w' none) := by
          have := listed_u o q lo w3 (hq.f0 G3) (by omega)
          unfold listedOf at this
          rw [if_pos hr] at this
          unfold othersOf
          rw [if_pos (of_decide_eq_true hc)]
          exact this
        rw [hc]
        go_wp2_with (first
          | (refine ld_u rfl (.tmp 3) rfl _ rfl X2 ?_)
          | (go_at_call 22; refine Calls.mono HL.out ?_; rintro e w' ⟨v, rfl, hpv, hgv⟩))
        go_meet
        exact ⟨hpv, hgv⟩
      · have hc' : cd1 b o = false := by simpa using hc
        rw [hc']
        go_wp2_with fail
        go_meet
        refine ⟨?_, grf _ _⟩
        unfold othersOf
        rw [if_neg (of_decide_eq_false hc')]
        exact hq.f0 G3
    case rest =>
      obtain ⟨hp5, g5⟩ := hcut
      obtain ⟨w5, hw⟩ : ∃ w5, w5 = wc := ⟨_, rfl⟩
      subst hw
      have Y1 := X1.f0 g5
      have Y2 := X2.f0 g5
      have Y3 := x3.f0 g5
      have G5 := gtr G3 g5
      clear X1 X2 x3 g5 G3 o9 o10 o11 o12 o13 o14 o15 b9 b10 b11 b12 b13 b14 b15
      obtain ⟨o9, o10, o11, o12, o13, o14, o15⟩ := Y2.cf
      obtain ⟨b9, b10, b11, b12, b13, b14, b15⟩ := Y1.cf
      have hl5 : (othersOf b o lo).length < 1000 := Nat.lt_of_le_of_lt (others_len b o lo) h2
      obtain ⟨a5, c5, rfl⟩ := hp5.len
      obtain ⟨ap, cp, rfl⟩ := hp.len
      have HC : Hid (∀ W : World, w5.grownBy W none → ∀ n, n < W.heap.size → W.cell? ⟨n, 0, none⟩ = some (.slice ap lb.length cp) → W.cell? ⟨n, 1, none⟩ = some (.slice a5 (othersOf b o lo).length c5) → Calls Yba.prog 33 #[.slice (some ⟨n, 0, none⟩) 2 2] W fun e w' => ∃ v, e = .returned v ∧ Ow w' W.heap.size v (lb ++ othersOf b o lo) ∧ W.grownBy w' none) := fun W g n hn c0 c1 =>
        concat_u n 2 _ _ lb (othersOf b o lo) W c0 c1 hn ((hp.f0 G5).f0 g) (hp5.f0 g) (by omega) (by omega)
      go_upto_region 5 with (go_at_call 33; refine (HC.out _ (gA _ _) _ (by simp) (ct rfl rfl) (ct rfl rfl)).mono ?_; rintro e w6 ⟨v6, rfl, ho6, g6⟩)
      have g56 := gtr (gA w5 _) g6
      have Z1 := Y1.f0 g56
      have Z2 := Y2.f0 g56
      have Z3 := Y3.f0 g56
      have G6 := gtr G5 g56
      have hb6 : w.heap.size + 1 + 1 + 1 ≤ w5.heap.size := by have := Y3.lt; omega
      obtain ⟨B6, hB6⟩ : ∃ B6 : Nat, B6 = w5.heap.size + 1 := ⟨_, rfl⟩
      have O6 : Ow w6 B6 v6 (lb ++ othersOf b o lo) := by rw [hB6]; simpa using ho6
      have hB6' : B6 ≤ w6.heap.size := by rw [hB6]; have := g6.size; simpa using this
      clear ho6 g6 g56 Y1 Y2 Y3 G5 HC o9 o10 o11 o12 o13 o14 o15 b9 b10 b11 b12 b13 b14 b15 hp hq hp5
      obtain ⟨o9, o10, o11, o12, o13, o14, o15⟩ := Z2.cf
      obtain ⟨b9, b10, b11, b12, b13, b14, b15⟩ := Z1.cf
      go_cut [46] (fun s46 wx => s46 = .bool (cd2 b o) ∧ wx = w6)
      case first =>
        go_wp2_with fail
        all_goals go_meet
        all_goals exact ⟨by simp [cd2, *], rfl⟩
      case rest =>
        obtain ⟨rfl, hw⟩ := hcut
        rw [hw]
        clear hw wc
        go_upto_if 46 with fail
        go_cut [6] (fun s6 wx => Ow wx B6 s6 (lb ++ othersOf b o lo ++ extraOf b o) ∧ Bx wx w.heap.size b (.slice ap lb.length cp) ∧ Bx wx (w.heap.size + 1 + 1) zHd (.slice none 0 0) ∧ w.grownBy wx none ∧ B6 ≤ wx.heap.size)
        case first =>
          by_cases hc : cd2 b o = true
          · have he : extraOf b o = o.hs := by unfold extraOf; rw [if_pos (of_decide_eq_true hc)]
            rw [hc]
            go_wp2_with (at_builtin; refine app_u rfl (.tmp 47) (.tmp 49) rfl B6 v6 _ _ o.hs rfl rfl O6 Z2.hc (by rw [List.length_append]; show _ + 6 < _; omega) hB6' ?_; intro v7 w7 ho7 g7 hob7)
            go_meet
            have hob : ∀ k, v6.ownBlock = some k → w.heap.size ≤ k := fun k hk => by have := hob7 k hk; omega
            exact ⟨by rw [he]; exact ho7, Z1.fr g7 (fun e => by have := hob7 _ e.symm; omega), Z3.fr g7 (fun e => by have := hob7 _ e.symm; omega), gnew G6 g7 hob, Nat.le_trans hB6' g7.size⟩
          · have hc' : cd2 b o = false := by simpa using hc
            have he : extraOf b o = [] := by unfold extraOf; rw [if_neg (of_decide_eq_false hc')]
            rw [hc']
            go_wp2_with fail
            go_meet
            exact ⟨by rw [he, List.append_nil]; exact O6, Z1, Z3, G6, hB6'⟩
        case rest =>
          obtain ⟨O7, V1, V3, G7, hB7⟩ := hcut
          obtain ⟨w7, hw⟩ : ∃ w7, w7 = wc := ⟨_, rfl⟩
          subst hw
          clear Z1 Z2 Z3 G6 hB6' O6 o9 o10 o11 o12 o13 o14 o15 b9 b10 b11 b12 b13 b14 b15
          have hlen : (lb ++ othersOf b o lo ++ extraOf b o).length < 1000000 := by
            have := extra_len b o
            rw [List.length_append, List.length_append]; omega
          have hob : ∀ k, u6.ownBlock = some k → B6 ≤ k := fun k hk => (World.ownsRow.lt O7 k hk).1
          have HS : Hid (Calls Yba.prog 15 #[u6] w7 fun e w' => e = .returned (.tuple #[]) ∧ Srt w' u6 (lb ++ othersOf b o lo ++ extraOf b o) ∧ w7.grownBy w' u6.ownBlock) := sort_ow w7 B6 u6 _ O7 hlen
          have HCp : Hid (∀ wz, Srt wz u6 (lb ++ othersOf b o lo ++ extraOf b o) → Calls Yba.prog 34 #[u6] wz fun e w' => ∃ v', e = .returned v' ∧ Pl w' v' (mgl b o lb lo) ∧ wz.grownBy w' u6.ownBlock ∧ v'.ownBlock = u6.ownBlock) := fun wz hz => compact_srt wz u6 _ hz hlen
          go_upto_region 8 with (go_at_call 15; refine Calls.mono HS.out ?_; rintro e w8 ⟨rfl, hS8, g8⟩)
          go_wp2_with (first
            | (go_at_call 34; refine Calls.mono (HCp.out _ hS8) ?_; rintro e w9 ⟨v9, rfl, hp9, g9, e9⟩)
            | (refine sp_u rfl _ _ rfl w.heap.size rfl v9 rfl ((V1.fr g8 (fun e => by have := hob _ e.symm; omega)).fr g9 (fun e => by have := hob _ e.symm; omega)) hp9.sl ?_; intro w10 x10 g10 s10)
            | (refine ld_u rfl _ rfl w.heap.size rfl x10 ?_)
            | (refine st_u rfl _ _ rfl (w.heap.size + 1 + 1) rfl b v9 rfl (((V3.fr g8 (fun e => by have := hob _ e.symm; omega)).fr g9 (fun e => by have := hob _ e.symm; omega)).fr g10 (by simp; omega)) hp9.sl ?_; intro w11 x11 g11 s11))
          (try simp only [Exit.inBlock, Exit.then]); refine bodyPost_ret (ret39 rfl _ (w.heap.size + 1 + 1) rfl x11) rfl ?_
          refine ⟨v9, rfl, (hp9.fb g10 ?_).fb g11 ?_, ?_, fun k hk => by rw [e9] at hk; have := hob k hk; omega⟩
          · intro k hk e; rw [e9] at hk; have := hob k hk; cases e; omega
          · intro k hk e; rw [e9] at hk; have := hob k hk; cases e; omega
          · have hob' : ∀ k, u6.ownBlock = some k → w.heap.size ≤ k := fun k hk => by have := hob k hk; omega
            exact gnew (gnew (gnew (gnew G7 g8 hob') g9 hob') g10 (fun k e => by cases e; exact Nat.le_refl _)) g11 (fun k e => by cases e; omega)
end Go.Proofs.Ybulkdbmw

import Derived.Test.YbulkdbmwMt
import Derived.Deep.RegionHeld3
namespace Go.Proofs.Ybulkdbmw
open Go Go.RowKit Go.Sort Go.Shelf Go.Lib

theorem exec_ld {o : Oper} {a : Act} {w : World} {x : Operand} (ho : o.op = .load 39 x) {b : Nat} (hx : a.eval x = .pointer (some ⟨b, 0, none⟩)) {h : Hd} {pd : Value} (hb : Bx w b h pd) : (execOp a.eval o).run Yba.prog w = .ok (.value (h.val pd)) w := by
  unfold execOp
  simp only [ho, hx, Instr.loadAt, Instr.sureAddr, Sem.run_bind, Sem.run_pure, Result.andThen_ok, run_loadVar_row w b 39 39 _ (0, 0) _ hb Yba.underlying39 rfl (info39 _ rfl)]
  rfl

theorem al_w {o : Oper} {a : Act} {w : World} {K : Act → World → Prop} {Q : Exit → Act → World → Prop} (ho : o.op = .alloc 39)
    (k : ∀ w', Bx w' w.heap.size zHd (.slice none 0 0) → w.grownBy w' none → w'.heap.size = w.heap.size + 1 → K (a.put o.dst (.pointer (some ⟨w.heap.size, 0, none⟩))) w') : o.wp Yba.prog a w K Q := by
  unfold Oper.wp execOp
  simp only [ho]
  simp [go_sem]
  exact k _ (Bx.new w zHd _) (gA _ _) (by simp)

theorem st_w {o : Oper} {a : Act} {w : World} {K : Act → World → Prop} {Q : Exit → Act → World → Prop} (x y : Operand) (ho : o.op = .store 39 x y) (b : Nat) (hx : a.eval x = .pointer (some ⟨b, 0, none⟩)) (h : Hd) (pd : Value) (hy : a.eval y = h.val pd) {h0 : Hd} {p0 : Value} (hb : Bx w b h0 p0) (hs : IsSl pd)
    (k : ∀ w', Bx w' b h pd → w.grownBy w' (some b) → w'.heap.size = w.heap.size → K (a.put o.dst undef) w') : o.wp Yba.prog a w K Q := by
  refine wp_store_row 39 x y ho b (h.cs pd) hx hy 39 _ hb (info39 _ rfl) rfl ?_ (k _ (setRow_heap w b _ _ 39 (0, 0) hb) (grown_row w b _) (by simp))
  obtain ⟨p, n, c, rfl⟩ := hs
  simp [Value.oneCell']

set_option maxHeartbeats 3200000 in
set_option maxRecDepth 100000 in
theorem zzmeet_u (c b : Hd) (p q : Value) (lc lb : List Int) (has : Bool) (w : World) (hp : Pl w p lc) (hq : Pl w q lb) (h1 : lc.length < 1000) (h2 : lb.length < 1000) :
    Calls Yba.prog 6 #[c.val p, .bool has, b.val q] w fun e w' => ∃ v, e = .returned ((meetF (if has then some (c, lc) else none) (b, lb)).1.val v) ∧ Pl w' v (meetF (if has then some (c, lc) else none) (b, lb)).2 ∧ w.grownBy w' none ∧ ∀ k, v.ownBlock = some k → q.ownBlock = some k ∨ w.heap.size ≤ k := by
  cases has with
  | false =>
    go_enter Yba.func6, Yba.ntmps6
    go_upto_region 1 with (first | (refine bo_u rfl (.tmp 0) rfl c p rfl ?_; intro w1 x1 g1 s1) | (refine bo_u rfl (.tmp 2) rfl b q rfl ?_; intro w2 x2 g2 s2) | (refine al_u rfl rfl ?_; intro w3 x3 g3 s3))
    rw [s1] at *
    rw [s2] at *
    have X2 := x2.f0 g3
    have G3 := gtr g1 (gtr g2 g3)
    clear x1 x2 g1 g2 g3
    go_wp2_with (first
      | (refine ld_u rfl _ rfl _ rfl X2 ?_; go_frame)
      | (refine st_u rfl _ _ rfl _ rfl b q rfl x3 hq.sl ?_; intro w4 x4 g4 s4))
    (try simp only [Exit.inBlock, Exit.then]); refine bodyPost_ret (ret39 rfl _ _ rfl x4) rfl ?_
    have G4 := gnew G3 g4 (fun k e => by cases e; omega)
    exact ⟨q, rfl, hq.f0 G4, G4, fun k hk => Or.inl hk⟩
  | true =>
    go_enter Yba.func6, Yba.ntmps6
    go_upto_region 1 with (first | (refine bo_u rfl (.tmp 0) rfl c p rfl ?_; intro w1 x1 g1 s1) | (refine bo_u rfl (.tmp 2) rfl b q rfl ?_; intro w2 x2 g2 s2) | (refine al_u rfl rfl ?_; intro w3 x3 g3 s3))
    rw [s1] at *
    rw [s2] at *
    have X1 := x1.f0 (gtr g2 g3)
    have X2 := x2.f0 g3
    have G3 := gtr g1 (gtr g2 g3)
    clear x1 x2 g1 g2 g3
    go_upto_region 3 with fail
    go_cut [7, 8] (fun s7 s8 wx => ∃ a7 a8, s7 = .pointer (some ⟨a7, 0, none⟩) ∧ s8 = .pointer (some ⟨a8, 0, none⟩) ∧ Bx wx a7 c p ∧ Bx wx a8 b q ∧ a7 ≠ a8 ∧ w3.heap.size ≤ a7 ∧ w3.heap.size ≤ a8 ∧ w3.grownBy wx none)
    case first =>
      refine wp_region_held_drew (S := fun wq => Bx wq w.heap.size c p ∧ Bx wq (w.heap.size + 1) b q) (by kernel_rfl) ⟨X1, X2⟩ (fun hS => ?_)
      refine wpAnyH_take (i := 0) (oi := { dst := some 16, op := .load 39 (.tmp 3), type := 39, pos := "zz_law_s5144a.go:84", after := #[], guard := none }) (v := c.val p) rfl (by kernel_rfl) (by kernel_rfl) (by kernel_rfl) (fun _ _ _ h => h) (Or.inl ⟨rfl, fun wq hq => exec_ld rfl rfl hq.1⟩) hS ?_
      go_frame
      refine wpAnyH_take (i := 1) (oi := { dst := some 17, op := .load 39 (.tmp 5), type := 39, pos := "zz_law_s5144a.go:84", after := #[{ on := 4, ground := .gcOnly .lateStores }], guard := none }) (v := b.val q) rfl (by kernel_rfl) (by kernel_rfl) (by kernel_rfl) (fun _ _ _ h => h) (Or.inl ⟨rfl, fun wq hq => exec_ld rfl rfl hq.2⟩) hS ?_
      go_frame
      refine wpAnyH_ready (rs := [2, 3]) (by kernel_rfl) (by simp) ?_
      refine AllReadyH.cons (o := { dst := some 7, op := .alloc 39, type := 0, pos := "zz_law_s5144a.go:84", after := #[], guard := none }) rfl (fun K hK => ?_) (AllReadyH.cons (o := { dst := some 8, op := .alloc 39, type := 0, pos := "zz_law_s5144a.go:84", after := #[], guard := none }) rfl (fun K hK => ?_) AllReadyH.nil)
      · rw [if_pos (by rfl)]
        refine al_w rfl ?_
        intro w4 x4 g4 s4
        refine hK.out _ _ ⟨hS.1.f0 g4, hS.2.f0 g4⟩ (fun hS4 => ?_)
        clear hK K
        go_frame
        refine wpAnyH_ready (rs := [3]) (by kernel_rfl) (by simp) ?_
        refine AllReadyH.cons (o := { dst := some 8, op := .alloc 39, type := 0, pos := "zz_law_s5144a.go:84", after := #[], guard := none }) rfl (fun K hK => ?_) AllReadyH.nil
        rw [if_pos (by rfl)]
        refine al_w rfl ?_
        intro w5 x5 g5 s5
        refine hK.out _ _ ⟨hS4.1.f0 g5, hS4.2.f0 g5⟩ (fun hS5 => ?_)
        clear hK K
        go_frame
        have hz4 : w4.heap.size = w3.heap.size + 1 := s4
        have hz0 : w3.drew.heap.size = w3.heap.size := rfl
        have Z4 := x4.f0 g5
        refine wpAnyH_ready (rs := [4]) (by kernel_rfl) (by simp) ?_
        refine AllReadyH.cons (o := { dst := none, op := .store 39 (.tmp 7) (.tmp 16), type := 0, pos := "zz_law_s5144a.go:84", after := #[{ on := 2, ground := .data }, { on := 0, ground := .data }, { on := 0, ground := .phase }, { on := 1, ground := .textOnly .lateStores }, { on := 2, ground := .phase }, { on := 3, ground := .phase }], guard := none }) rfl (fun K hK => ?_) AllReadyH.nil
        rw [if_pos (by rfl)]
        refine st_w _ _ rfl _ rfl c p rfl Z4 hp.sl ?_
        intro w6 x6 g6 s6
        refine hK.out _ _ ⟨hS5.1.fr g6 (by simp; omega), hS5.2.fr g6 (by simp; omega)⟩ (fun hS6 => ?_)
        clear hK K
        go_frame
        refine wpAnyH_ready (rs := [5]) (by kernel_rfl) (by simp) ?_
        refine AllReadyH.cons (o := { dst := none, op := .store 39 (.tmp 8) (.tmp 17), type := 0, pos := "zz_law_s5144a.go:84", after := #[{ on := 3, ground := .data }, { on := 1, ground := .data }, { on := 4, ground := .chain }, { on := 0, ground := .phase }, { on := 1, ground := .phase }, { on := 2, ground := .phase }, { on := 3, ground := .phase }, { on := 4, ground := .phase }], guard := none }) rfl (fun K hK => ?_) AllReadyH.nil
        rw [if_pos (by rfl)]
        refine st_w _ _ rfl _ rfl b q rfl (x5.fr g6 (by simp; omega)) hq.sl ?_
        intro w7 x7 g7 s7
        refine hK.out _ _ ⟨hS6.1.fr g7 (by simp; omega), hS6.2.fr g7 (by simp; omega)⟩ (fun hS7 => ?_)
        clear hK K
        go_frame
        refine wpAnyH_done (by kernel_rfl) ?_ _
        go_wp2_with fail
        go_meet
        have g3 : w3.grownBy w5 none := gtr (gtr (gD (grf w3 none) 1) g4) g5
        have g3' : w3.grownBy w7 none := gnew (gnew g3 g6 (fun k e => by cases e; omega)) g7 (fun k e => by cases e; omega)
        have e6 := x6.fr g7 (by simp; omega)
        simp only [hz0, hz4, s3] at e6 x7
        exact ⟨_, _, rfl, rfl, e6, x7, by omega, by omega, by omega, g3'⟩
      · rw [if_pos (by rfl)]
        refine al_w rfl ?_
        intro w4 x4 g4 s4
        refine hK.out _ _ ⟨hS.1.f0 g4, hS.2.f0 g4⟩ (fun hS4 => ?_)
        clear hK K
        go_frame
        refine wpAnyH_ready (rs := [2]) (by kernel_rfl) (by simp) ?_
        refine AllReadyH.cons (o := { dst := some 7, op := .alloc 39, type := 0, pos := "zz_law_s5144a.go:84", after := #[], guard := none }) rfl (fun K hK => ?_) AllReadyH.nil
        rw [if_pos (by rfl)]
        refine al_w rfl ?_
        intro w5 x5 g5 s5
        refine hK.out _ _ ⟨hS4.1.f0 g5, hS4.2.f0 g5⟩ (fun hS5 => ?_)
        clear hK K
        go_frame
        have hz4 : w4.heap.size = w3.heap.size + 1 := s4
        have hz0 : w3.drew.heap.size = w3.heap.size := rfl
        have Z4 := x4.f0 g5
        refine wpAnyH_ready (rs := [4]) (by kernel_rfl) (by simp) ?_
        refine AllReadyH.cons (o := { dst := none, op := .store 39 (.tmp 7) (.tmp 16), type := 0, pos := "zz_law_s5144a.go:84", after := #[{ on := 2, ground := .data }, { on := 0, ground := .data }, { on := 0, ground := .phase }, { on := 1, ground := .textOnly .lateStores }, { on := 2, ground := .phase }, { on := 3, ground := .phase }], guard := none }) rfl (fun K hK => ?_) AllReadyH.nil
        rw [if_pos (by rfl)]
        refine st_w _ _ rfl _ rfl c p rfl x5 hp.sl ?_
        intro w6 x6 g6 s6
        refine hK.out _ _ ⟨hS5.1.fr g6 (by simp; omega), hS5.2.fr g6 (by simp; omega)⟩ (fun hS6 => ?_)
        clear hK K
        go_frame
        refine wpAnyH_ready (rs := [5]) (by kernel_rfl) (by simp) ?_
        refine AllReadyH.cons (o := { dst := none, op := .store 39 (.tmp 8) (.tmp 17), type := 0, pos := "zz_law_s5144a.go:84", after := #[{ on := 3, ground := .data }, { on := 1, ground := .data }, { on := 4, ground := .chain }, { on := 0, ground := .phase }, { on := 1, ground := .phase }, { on := 2, ground := .phase }, { on := 3, ground := .phase }, { on := 4, ground := .phase }], guard := none }) rfl (fun K hK => ?_) AllReadyH.nil
        rw [if_pos (by rfl)]
        refine st_w _ _ rfl _ rfl b q rfl (Z4.fr g6 (by simp; omega)) hq.sl ?_
        intro w7 x7 g7 s7
        refine hK.out _ _ ⟨hS6.1.fr g7 (by simp; omega), hS6.2.fr g7 (by simp; omega)⟩ (fun hS7 => ?_)
        clear hK K
        go_frame
        refine wpAnyH_done (by kernel_rfl) ?_ _
        go_wp2_with fail
        go_meet
        have g3 : w3.grownBy w5 none := gtr (gtr (gD (grf w3 none) 1) g4) g5
        have g3' : w3.grownBy w7 none := gnew (gnew g3 g6 (fun k e => by cases e; omega)) g7 (fun k e => by cases e; omega)
        have e6 := x6.fr g7 (by simp; omega)
        simp only [hz0, hz4, s3] at e6 x7
        exact ⟨_, _, rfl, rfl, e6, x7, by omega, by omega, by omega, g3'⟩
    case rest =>
      obtain ⟨a7, a8, rfl, rfl, V7, V8, hne, h7, h8, g4⟩ := hcut
      obtain ⟨w4, hw⟩ : ∃ w4, w4 = wc := ⟨_, rfl⟩
      subst hw
      have Y1 := X1.f0 g4
      have Y2 := X2.f0 g4
      have Y3 := x3.f0 g4
      have G4 := gtr G3 g4
      clear X1 X2 x3 g4 G3
      have HN : Hid (Calls Yba.prog 13 #[b.val q, c.val p] w4 fun e w' => e = .returned (.bool (newer b c)) ∧ w4.grownBy w' none) := zznewer_u b c q p w4
      go_upto_if 20 with (first
        | (refine ld_u rfl (.tmp 3) rfl _ rfl Y1 ?_; go_frame)
        | (refine ld_u rfl (.tmp 5) rfl _ rfl Y2 ?_; go_frame)
        | (go_at_call 13; refine Calls.mono HN.out ?_; rintro e w5 ⟨rfl, g5⟩))
      have Z1 := Y1.f0 g5
      have Z2 := Y2.f0 g5
      have Z3 := Y3.f0 g5
      have Z7 := V7.f0 g5
      have Z8 := V8.f0 g5
      have G5 := gtr G4 g5
      clear Y1 Y2 Y3 V7 V8 G4 HN g5
      go_cut [21, 22] (fun _ _ wx => Bx wx a7 (if newer b c then b else c) (if newer b c then q else p) ∧ Bx wx a8 (if newer b c then c else b) (if newer b c then p else q) ∧ Bx wx (w.heap.size + 1 + 1) zHd (.slice none 0 0) ∧ w.grownBy wx none)
      case first =>
        cases hnw : newer b c with
        | false =>
          go_wp2_with fail
          go_meet
          exact ⟨by simpa [hnw] using Z7, by simpa [hnw] using Z8, Z3, G5⟩
        | true =>
          go_wp2_with fail
          refine wp_region_held_drew (S := fun wq => Bx wq w.heap.size c p ∧ Bx wq (w.heap.size + 1) b q) (by kernel_rfl) ⟨Z1, Z2⟩ (fun hS => ?_)
          refine wpAnyH_take (i := 0) (oi := { dst := some 21, op := .load 39 (.tmp 5), type := 39, pos := "zz_law_s5144a.go:86", after := #[], guard := none }) (v := b.val q) rfl (by kernel_rfl) (by kernel_rfl) (by kernel_rfl) (fun _ _ _ h => h) (Or.inl ⟨rfl, fun wq hq => exec_ld rfl rfl hq.2⟩) hS ?_
          go_frame
          refine wpAnyH_take (i := 1) (oi := { dst := some 22, op := .load 39 (.tmp 3), type := 39, pos := "zz_law_s5144a.go:86", after := #[{ on := 2, ground := .gcOnly .lateStores }], guard := none }) (v := c.val p) rfl (by kernel_rfl) (by kernel_rfl) (by kernel_rfl) (fun _ _ _ h => h) (Or.inl ⟨rfl, fun wq hq => exec_ld rfl rfl hq.1⟩) hS ?_
          go_frame
          refine wpAnyH_ready (rs := [2]) (by kernel_rfl) (by simp) ?_
          refine AllReadyH.cons (o := { dst := none, op := .store 39 (.tmp 7) (.tmp 21), type := 0, pos := "zz_law_s5144a.go:86", after := #[{ on := 0, ground := .data }, { on := 0, ground := .phase }, { on := 1, ground := .textOnly .lateStores }], guard := none }) rfl (fun K hK => ?_) AllReadyH.nil
          rw [if_pos (by rfl)]
          refine st_w _ _ rfl _ rfl b q rfl (show Bx w5.drew a7 c p from Z7) hq.sl ?_
          intro w6 x6 g6 s6
          refine hK.out _ _ ⟨hS.1.fr g6 (by simp; omega), hS.2.fr g6 (by simp; omega)⟩ (fun hS6 => ?_)
          clear hK K
          go_frame
          refine wpAnyH_ready (rs := [3]) (by kernel_rfl) (by simp) ?_
          refine AllReadyH.cons (o := { dst := none, op := .store 39 (.tmp 8) (.tmp 22), type := 0, pos := "zz_law_s5144a.go:86", after := #[{ on := 1, ground := .data }, { on := 2, ground := .chain }, { on := 0, ground := .phase }, { on := 1, ground := .phase }, { on := 2, ground := .phase }], guard := none }) rfl (fun K hK => ?_) AllReadyH.nil
          rw [if_pos (by rfl)]
          refine st_w _ _ rfl _ rfl c p rfl ((show Bx w5.drew a8 b q from Z8).fr g6 (by simp; omega)) hp.sl ?_
          intro w7 x7 g7 s7
          refine hK.out _ _ ⟨hS6.1.fr g7 (by simp; omega), hS6.2.fr g7 (by simp; omega)⟩ (fun hS7 => ?_)
          clear hK K
          go_frame
          refine wpAnyH_done (by kernel_rfl) ?_ _
          go_wp2_with fail
          go_meet
          have g3' : w.grownBy w7 none := gnew (gnew (gD G5 1) g6 (fun k e => by cases e; omega)) g7 (fun k e => by cases e; omega)
          exact ⟨by simpa [hnw] using x6.fr g7 (by simp; omega), by simpa [hnw] using x7, ((show Bx w5.drew _ _ _ from Z3).fr g6 (by simp; omega)).fr g7 (by simp; omega), g3'⟩
      case rest =>
        obtain ⟨V7, V8, V6, G6⟩ := hcut
        obtain ⟨w6, hw⟩ : ∃ w6, w6 = wc := ⟨_, rfl⟩
        subst hw
        obtain ⟨W, L, pw, pl, lw, ll, e1, e2, e3, e4, hpw, hpl, hlw, hll, hm⟩ : ∃ W L pw pl lw ll, (if newer b c then b else c) = W ∧ (if newer b c then q else p) = pw ∧ (if newer b c then c else b) = L ∧ (if newer b c then p else q) = pl ∧ Pl w pw lw ∧ Pl w pl ll ∧ lw.length < 1000 ∧ ll.length < 1000 ∧ meetF (some (c, lc)) (b, lb) = (W, mgl W L lw ll) := by
          cases hnw : newer b c with
          | true => exact ⟨b, c, q, p, lb, lc, rfl, rfl, rfl, rfl, hq, hp, h2, h1, by simp [meetF, hnw, mg]⟩
          | false => exact ⟨c, b, p, q, lc, lb, rfl, rfl, rfl, rfl, hp, hq, h1, h2, by simp [meetF, hnw, mg]⟩
        rw [e1, e2] at V7
        rw [e3, e4] at V8
        have hsz6 : w3.heap.size ≤ w6.heap.size := by have := V7.lt; have := V8.lt; have := V6.lt; omega
        clear e1 e2 e3 e4 Z1 Z2 Z3 Z7 Z8 G5 hp hq
        obtain ⟨o9, o10, o11, o12, o13, o14, o15⟩ := V8.cf
        obtain ⟨b9, b10, b11, b12, b13, b14, b15⟩ := V7.cf
        go_upto_region 7 with fail
        go_cut [38] (fun s38 wx => s38 = .bool (cd1 W L) ∧ wx = w6)
        case first =>
          go_wp2_with fail
          all_goals go_meet
          all_goals exact ⟨by simp [cd1, *], rfl⟩
        case rest =>
          obtain ⟨rfl, hw⟩ := hcut
          rw [hw]
          clear hw wc
          go_upto_if 38 with fail
          go_cut [9] (fun s9 wx => Pl wx s9 (othersOf W L ll) ∧ w6.grownBy wx none)
          case first =>
            by_cases hc : cd1 W L = true
            · have HL : Hid (Calls Yba.prog 14 #[L.val pl] w6 fun e w' => ∃ v, e = .returned v ∧ Pl w' v (othersOf W L ll) ∧ w6.grownBy w' none) := by
                have := zzlisted_u L pl ll w6 (hpl.f0 G6) (by omega)
                unfold othersOf
                rw [if_pos (of_decide_eq_true hc)]
                exact this
              rw [hc]
              go_wp2_with (first
                | (refine ld_u rfl (.tmp 8) rfl _ rfl V8 ?_; go_frame)
                | (go_at_call 14; refine Calls.mono HL.out ?_; rintro e w' ⟨v, rfl, hpv, hgv⟩))
              go_meet
              exact ⟨hpv, hgv⟩
            · have hc' : cd1 W L = false := by simpa using hc
              rw [hc']
              go_wp2_with fail
              go_meet
              refine ⟨?_, grf _ _⟩
              unfold othersOf
              rw [if_neg (of_decide_eq_false hc')]
              exact hpl.f0 G6
          case rest =>
            obtain ⟨hp9, g9⟩ := hcut
            obtain ⟨w9, hw⟩ : ∃ w9, w9 = wc := ⟨_, rfl⟩
            subst hw
            have X7 := V7.f0 g9
            have X8 := V8.f0 g9
            have X6 := V6.f0 g9
            have G9 := gtr G6 g9
            have hsz9 : w6.heap.size ≤ w9.heap.size := g9.size
            clear V7 V8 V6 g9 G6 o9 o10 o11 o12 o13 o14 o15 b9 b10 b11 b12 b13 b14 b15
            obtain ⟨b9, b10, b11, b12, b13, b14, b15⟩ := X7.cf
            have hl9 : (othersOf W L ll).length < 1000 := Nat.lt_of_le_of_lt (others_len W L ll) hll
            obtain ⟨B9, hB9⟩ : ∃ B9 : Nat, B9 = w9.heap.size := ⟨_, rfl⟩
            have k7 : a7 < B9 := by rw [hB9]; exact X7.lt
            have k8 : a8 < B9 := by rw [hB9]; exact X8.lt
            have k6 : w.heap.size + 1 + 1 < B9 := by rw [hB9]; exact X6.lt
            go_upto_region 11 with (at_builtin; refine app_u rfl (.tmp 41) (.tmp 43) rfl B9 (.slice none 0 0) pw [] lw rfl rfl (Ow.nil _ _) (hpw.f0 G9) (by simp; omega) (by omega) ?_; intro v10 w10 ho10 g10 hob10)
            go_upto_region 12 with (at_builtin; refine app_u rfl (.tmp 45) (.tmp 46) rfl B9 v10 u9 ([] ++ lw) (othersOf W L ll) rfl rfl ho10 (hp9.f0 (gnew (grf _ _) g10 (fun k e => by have := hob10 k e; omega))) (by simp; omega) (by have := g10.size; omega) ?_; intro v11 w11 ho11 g11 hob11)
            have g911 : w9.grownBy w11 none := gnew (gnew (grf _ _) g10 (fun k e => by have := hob10 k e; omega)) g11 (fun k e => by have := hob11 k e; omega)
            have Y7 := X7.f0 g911
            have Y8 := X8.f0 g911
            have Y6 := X6.f0 g911
            have G11 := gtr G9 g911
            have hB11 : B9 ≤ w11.heap.size := by have := g911.size; omega
            have O11 : Ow w11 B9 v11 (lw ++ othersOf W L ll) := ho11
            clear X7 X8 X6 G9 g911 g10 g11 hob10 hob11 ho10 ho11 b9 b10 b11 b12 b13 b14 b15
            obtain ⟨o9, o10, o11, o12, o13, o14, o15⟩ := Y8.cf
            obtain ⟨b9, b10, b11, b12, b13, b14, b15⟩ := Y7.cf
            go_cut [64] (fun s64 wx => s64 = .bool (cd2 W L) ∧ wx = w11)
            case first =>
              go_wp2_with fail
              all_goals go_meet
              all_goals exact ⟨by simp [cd2, *], rfl⟩
            case rest =>
              obtain ⟨rfl, hw⟩ := hcut
              rw [hw]
              clear hw wc
              go_upto_if 64 with fail
              go_cut [10] (fun s10 wx => Ow wx B9 s10 (lw ++ othersOf W L ll ++ extraOf W L) ∧ Bx wx a7 W pw ∧ Bx wx (w.heap.size + 1 + 1) zHd (.slice none 0 0) ∧ w.grownBy wx none ∧ B9 ≤ wx.heap.size)
              case first =>
                by_cases hc : cd2 W L = true
                · have he : extraOf W L = L.hs := by unfold extraOf; rw [if_pos (of_decide_eq_true hc)]
                  rw [hc]
                  go_wp2_with (at_builtin; refine app_u rfl (.tmp 65) (.tmp 67) rfl B9 v11 _ _ L.hs rfl rfl O11 Y8.hc (by rw [List.length_append]; show _ + 6 < _; omega) hB11 ?_; intro v7 w7 ho7 g7 hob7)
                  go_meet
                  have hob : ∀ k, v11.ownBlock = some k → w.heap.size ≤ k := fun k hk => by have := hob7 k hk; omega
                  exact ⟨by rw [he]; exact ho7, Y7.fr g7 (fun e => by have := hob7 _ e.symm; omega), Y6.fr g7 (fun e => by have := hob7 _ e.symm; omega), gnew G11 g7 hob, Nat.le_trans hB11 g7.size⟩
                · have hc' : cd2 W L = false := by simpa using hc
                  have he : extraOf W L = [] := by unfold extraOf; rw [if_neg (of_decide_eq_false hc')]
                  rw [hc']
                  go_wp2_with fail
                  go_meet
                  exact ⟨by rw [he, List.append_nil]; exact O11, Y7, Y6, G11, hB11⟩
              case rest =>
                obtain ⟨O12, V7, V6, G12, hB12⟩ := hcut
                obtain ⟨w12, hw⟩ : ∃ w12, w12 = wc := ⟨_, rfl⟩
                subst hw
                clear Y7 Y8 Y6 G11 hB11 O11 o9 o10 o11 o12 o13 o14 o15 b9 b10 b11 b12 b13 b14 b15
                have hlen : (lw ++ othersOf W L ll ++ extraOf W L).length < 1000000 := by
                  have := extra_len W L
                  rw [List.length_append, List.length_append]; omega
                have hob : ∀ k, u10.ownBlock = some k → B9 ≤ k := fun k hk => (World.ownsRow.lt O12 k hk).1
                have HS : Hid (Calls Yba.prog 15 #[u10] w12 fun e w' => e = .returned (.tuple #[]) ∧ Srt w' u10 (lw ++ othersOf W L ll ++ extraOf W L) ∧ w12.grownBy w' u10.ownBlock) := sort_ow w12 B9 u10 _ O12 hlen
                have hmg : mgl W L lw ll = cS (lw ++ othersOf W L ll ++ extraOf W L) := rfl
                clear O12
                generalize hLL : lw ++ othersOf W L ll ++ extraOf W L = LL at *
                go_upto_region 15 with (go_at_call 15; refine Calls.mono HS.out ?_; rintro e w13 ⟨rfl, hS13, g13⟩)
                have X7 := V7.fr g13 (fun e => by have := hob _ e.symm; omega)
                have X6 := V6.fr g13 (fun e => by have := hob _ e.symm; omega)
                have G13 := gnew G12 g13 (fun k e => by have := hob k e; omega)
                have hsz13 : B9 ≤ w13.heap.size := Nat.le_trans hB12 g13.size
                clear V7 V6 G12 g13 HS hB12
                rcases hS13 with ⟨rfl, rfl⟩ | ⟨g, cap, rfl, hgl, hcap, hH⟩
                · have hcs : cS [] = [] := List.length_eq_zero_iff.1 (Nat.le_zero.1 (cS_len []))
                  go_wp2
                  refine wp_loop_rounds 1 ?_
                  rw [rounds_succ]
                  go_wp2_with (first
                    | (refine sp_u rfl _ _ rfl a7 rfl (.slice none 0 0) rfl X7 ⟨none, 0, 0, rfl⟩ ?_; intro w14 x14 g14 s14)
                    | (refine ld_u rfl _ rfl a7 rfl x14 ?_; go_frame)
                    | (refine st_u rfl _ _ rfl (w.heap.size + 1 + 1) rfl W (.slice none 0 0) rfl (X6.fr g14 (by simp; omega)) ⟨none, 0, 0, rfl⟩ ?_; intro w15 x15 g15 s15))
                  (try simp only [Exit.inBlock, Exit.then]); refine bodyPost_ret (ret39 rfl _ _ rfl x15) rfl ?_
                  have G15 := gnew (gnew G13 g14 (fun k e => by cases e; omega)) g15 (fun k e => by cases e; omega)
                  exact ⟨_, rfl, Pl.nil _, G15, fun k hk => by cases hk⟩
                · have hds := srt_size LL
                  have hcd : cS LL = compactUpTo (srt LL) LL.length := by unfold cS; rw [srt_size]
                  generalize hd : srt LL = d at *
                  have Hcl : Hid (∀ k, (compactUpTo d k).length ≤ k) := fun k => by
                    unfold compactUpTo
                    rw [List.length_map]
                    exact Nat.le_trans (List.length_filter_le _ _) (by simp)
                  have HH : Hid (∀ wr, w13.grownBy wr none → ∀ j, j < LL.length → wr.cell? ⟨g, j, none⟩ = some (encU d[j]!)) := fun wr gr j hj => by
                    have := (hH j (by omega)).1
                    rw [Nat.zero_add] at this
                    exact (World.cell?_of_block (gr.block g hgl (by simp))).trans this
                  obtain ⟨B13, hB13⟩ : ∃ B13 : Nat, B13 = w13.heap.size := ⟨_, rfl⟩
                  clear hH hLL
                  generalize hn : LL.length = n at *
                  go_wp2_with fail
                  go_loopw [12, 11] (fun vi vd wr => ∃ k : Nat, vi = .int .i64 k ∧ k ≤ n ∧ Ow wr B13 vd (compactUpTo d k) ∧ w13.grownBy wr none) (fun vi _ _ => n - (intOf vi).toNat)
                  case atStart => exact ⟨0, rfl, Nat.zero_le _, Ow.nil _ _, grf _ _⟩
                  case round =>
                    obtain ⟨k, rfl, hk, ho, hg⟩ := hrel
                    have hzz : B13 ≤ wr.heap.size := by rw [hB13]; exact hg.size
                    by_cases hlt : k < n
                    · have cx := HH.out wr hg k hlt
                      have HO : Hid (Ow wr B13 u11 (compactUpTo d k)) := ho
                      have HG : Hid (w13.grownBy wr none) := hg
                      clear ho
                      generalize hx : d[k]! = x at *
                      by_cases hk0 : k = 0
                      · subst hk0
                        have hkp : keeps d 0 = true := keeps_lt_one d 0 (by omega)
                        clear hg
                        go_wp2_with fail
                        go_quiet (fail)
                        rename_i nq
                        go_wp2_with (at_builtin; refine app_u rfl (.tmp 91) (.tmp 96) rfl B13 u11 _ _ [x] rfl rfl (HO.out.f0 (gtr (gD (grf _ _) nq) (gA _ _))) (Or.inr ⟨wr.heap.size, 0, 1, rfl, Nat.le_refl _, by simp, fun j hj => ct rfl (by cases (by simpa using hj : j = 0); rfl)⟩) (by have := Hcl.out 0; simp; omega) (by simp; omega) ?_; intro v2 w2 ho2 g2 hob2)
                        have g02 := gnew (gtr HG.out (gtr (gD (grf _ _) nq) (gA _ _))) g2 (fun j hj => by have := hob2 j hj; omega)
                        have hO2 : Ow w2 B13 v2 (compactUpTo d (0 + 1)) := by rw [compactUpTo_succ, hkp, if_pos rfl, hx]; exact ho2
                        clear g2 hob2 ho2
                        go_wp2_with fail
                        go_roundw
                        case rel => exact ⟨0 + 1, by go_num, by omega, hO2, g02⟩
                        case measure => simp [intOf]; omega
                      · obtain ⟨k', hk'⟩ : ∃ k', k = k' + 1 := ⟨k - 1, by omega⟩
                        have cx1 := HH.out wr hg k' (by omega)
                        have hI : (k : Int) < (n : Int) := by omega
                        have hI1 : (k' : Int) < (n : Int) := by omega
                        have hI0 : decide ((k : Int) = 0) = false := decide_eq_false (by omega)
                        have hI2 : IntKind.i64.wrap ((k : Int) - 1) = (k' : Int) := by
                          have e : (k : Int) - 1 = (k' : Int) := by omega
                          rw [e]
                          simp [IntKind.wrap, IntKind.bits, IntKind.signed]
                          omega
                        have hkk : k - 1 = k' := by omega
                        clear hg
                        by_cases hxy : d[k]! = d[k - 1]!
                        · have hkp : keeps d k = false := keeps_neg (by omega) hxy
                          rw [hkk] at hxy
                          have hxy' : x = d[k']! := hx ▸ hxy
                          generalize d[k']! = y at *
                          subst hxy'
                          clear hk' hkk
                          go_wp2_with fail
                          go_quiet (fail)
                          rename_i nq
                          go_wp2_with fail
                          go_roundw
                          case rel => exact ⟨k + 1, by go_num, by omega, by rw [compactUpTo_succ, hkp]; simpa using HO.out.f0 (gD (grf _ _) nq), gD HG.out nq⟩
                          case measure => simp [intOf]; omega
                        · have hkp : keeps d k = true := keeps_pos hxy
                          rw [hkk] at hxy
                          have hxy' : ¬ x = d[k']! := fun e => hxy (hx.trans e)
                          generalize d[k']! = y at *
                          have hxyd : (x != y) = true := by simp [hxy']
                          clear hk' hkk
                          go_wp2_with fail
                          go_quiet (fail)
                          rename_i nq
                          go_wp2_with (at_builtin; refine app_u rfl (.tmp 91) (.tmp 96) rfl B13 u11 _ _ [x] rfl rfl (HO.out.f0 (gtr (gD (grf _ _) nq) (gA _ _))) (Or.inr ⟨wr.heap.size, 0, 1, rfl, Nat.le_refl _, by simp, fun j hj => ct rfl (by cases (by simpa using hj : j = 0); rfl)⟩) (by have := Hcl.out k; simp; omega) (by simp; omega) ?_; intro v2 w2 ho2 g2 hob2)
                          have g02 := gnew (gtr HG.out (gtr (gD (grf _ _) nq) (gA _ _))) g2 (fun j hj => by have := hob2 j hj; omega)
                          have hO2 : Ow w2 B13 v2 (compactUpTo d (k + 1)) := by rw [compactUpTo_succ, hkp, if_pos rfl, hx]; exact ho2
                          clear g2 hob2 ho2
                          go_wp2_with fail
                          go_roundw
                          case rel => exact ⟨k + 1, by go_num, by omega, hO2, g02⟩
                          case measure => simp [intOf]; omega
                    · obtain rfl : k = n := by omega
                      have hpl := ho.pl
                      have hobl : ∀ j, u11.ownBlock = some j → B13 ≤ j := fun j hj => (World.ownsRow.lt ho j hj).1
                      have X7' := X7.f0 hg
                      have X6' := X6.f0 hg
                      have G' := gtr G13 hg
                      clear ho hg X7 X6 G13
                      go_wp2_with (first
                        | (refine sp_u rfl _ _ rfl a7 rfl u11 rfl X7' hpl.sl ?_; intro w14 x14 g14 s14)
                        | (refine ld_u rfl _ rfl a7 rfl x14 ?_; go_frame)
                        | (refine st_u rfl _ _ rfl (w.heap.size + 1 + 1) rfl W u11 rfl (X6'.fr g14 (by simp; omega)) hpl.sl ?_; intro w15 x15 g15 s15))
                      (try simp only [Exit.inBlock, Exit.then]); refine bodyPost_ret (ret39 rfl _ _ rfl x15) rfl ?_
                      have G15 := gnew (gnew G' g14 (fun k e => by cases e; omega)) g15 (fun k e => by cases e; omega)
                      have hp15 : Pl w15 u11 _ := (hpl.fb g14 (fun k hk e => by cases e; have := hobl _ hk; omega)).fb g15 (fun k hk e => by cases e; have := hobl _ hk; omega)
                      exact ⟨_, rfl, hp15, G15, fun k hk => Or.inr (by have := hobl k hk; omega)⟩
end Go.Proofs.Ybulkdbmw

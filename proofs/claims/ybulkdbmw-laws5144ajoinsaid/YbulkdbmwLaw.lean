import Derived.Test.YbulkdbmwLw
namespace Go.Proofs.Ybulkdbmw
open Go Go.RowKit Go.Sort Go.Shelf Go.Lib

theorem leng_u {w : World} {ops : Array Oper} {rest : List Oper} {o : Oper} {a : Act} {Q : Exit → Act → World → Prop} (hw : Region.wanted o (yielded ops a.tmps) = true) (m : Operand) (hop : o.op = Op.call { callee := Callee.builtin Builtin.len, args := #[m], argTypes := #[30] }) (mb n : Nat) (F : Ent)
    (hm : a.eval m = .map (some mb)) (hc : Cat w mb n F) (hK : wpList Yba.prog ops Q rest (a.put o.dst (.int .i64 (cnt F 8 : Nat))) w) : wpList Yba.prog ops Q (o :: rest) a w := by
  obtain ⟨D, h1, h2⟩ := hc
  refine wpList_step fun K hK' => ?_
  rw [if_pos hw]
  unfold Oper.wp
  simp [execOp, hop, resolve, invoke, builtin, hm, h1.len Yba.underlying30 o.type, Result.andThen]
  refine hK' _ _ ?_
  rw [h2.sz]
  exact hK

/-- Two blocks that are one. -/
theorem zzeq_t (b : Hd) (p q : Value) (l : List Int) (w : World) (hp : Pl w p l) (hq : Pl w q l) (h1 : l.length < 100000) :
    Calls Yba.prog 7 #[b.val p, b.val q] w fun e w' => e = .returned (.bool true) ∧ w.grownBy w' none :=
  (zzeq_q b b p q l l w hp hq h1 h1).mono fun _ _ h => by
    obtain ⟨x, rfl, hx, g⟩ := h
    exact ⟨by rw [hx.2 ⟨rfl, rfl⟩], g⟩

set_option maxHeartbeats 12800000 in
set_option maxRecDepth 100000 in
theorem law_u (ao bo mo : Option Addr) (n m nm ca cb cm : Nat) (es os : Nat → Ei) (ms : List Int) (w : World) (hC : EntsAt w ao n es) (hO : EntsAt w bo m os) (hM : Pv w (.slice mo nm cm) ms) (hn : n ≤ 1024) (hm : m ≤ 1024) (hk : nm ≤ 1024) (hms : ms.length = nm) :
    Calls Yba.prog 3 #[.slice ao n ca, .slice bo m cb, .slice mo nm cm] w fun e w' => e = .returned (.bool true) ∧ w.grownBy w' none := by
  have hnI : decide ((1024 : Int) < (n : Int)) = false := decide_eq_false (by omega)
  have hmI : decide ((1024 : Int) < (m : Int)) = false := decide_eq_false (by omega)
  have hkI : decide ((1024 : Int) < (nm : Int)) = false := decide_eq_false (by omega)
  have HC : Hid (EntsAt w ao n es) := hC
  have HO : Hid (EntsAt w bo m os) := hO
  have HM : Hid (Pv w (.slice mo nm cm) ms) := hM
  clear hC hO hM
  go_enter Yba.func3, Yba.ntmps3
  go_wp2_with fail
  go_loopw [7] (fun v7 wr => ∃ k : Nat, v7 = .int .i64 k ∧ k ≤ n ∧ wr = w ∧ ∀ i, i < k → (es i).l.length ≤ 256) (fun v7 _ => n - (intOf v7).toNat)
  case atStart => exact ⟨0, rfl, Nat.zero_le _, rfl, fun i hi => absurd hi (Nat.not_lt_zero _)⟩
  case round =>
    obtain ⟨k, rfl, hk1, rfl, hes⟩ := hrel
    by_cases hlt : k < n
    · obtain ⟨b, off, rfl, hb, hE⟩ := HC.out k hlt
      obtain ⟨pa, pc, hpv⟩ := hE.pl.len
      have c15 : wr.cell? ⟨b, off + k * 16 + 15, none⟩ = some (.slice pa (es k).l.length pc) := by rw [← hpv]; exact hE.cell 15 _ rfl
      generalize hL : (es k).l.length = L at *
      by_cases h256 : L ≤ 256
      · have hd : decide ((256 : Int) < (L : Int)) = false := decide_eq_false (by omega)
        go_wp2_with fail
        go_roundw
        case rel =>
          refine ⟨k + 1, by go_num, by omega, by trivial, fun i hi => ?_⟩
          by_cases e : i = k
          · subst e; omega
          · exact hes i (by omega)
        case measure => simp [intOf]; omega
      · have hd : decide ((256 : Int) < (L : Int)) = true := decide_eq_true (by omega)
        go_wp2_with fail
        go_ret
        exact ⟨rfl, grf _ _⟩
    · obtain rfl : k = n := by omega
      have HES : Hid (∀ i, i < k → (es i).l.length ≤ 256) := hes
      clear hes hlt
      obtain ⟨w, hw⟩ : ∃ w, w = wr := ⟨_, rfl⟩
      subst hw
      go_wp2_with fail
      go_loopw [8] (fun v8 wr => ∃ j : Nat, v8 = .int .i64 j ∧ j ≤ m ∧ wr = w ∧ ∀ i, i < j → (os i).l.length ≤ 256) (fun v8 _ => m - (intOf v8).toNat)
      case atStart => exact ⟨0, rfl, Nat.zero_le _, rfl, fun i hi => absurd hi (Nat.not_lt_zero _)⟩
      case round =>
        obtain ⟨j, rfl, hj1, rfl, hes⟩ := hrel
        by_cases hlt : j < m
        · obtain ⟨b, off, rfl, hb, hE⟩ := HO.out j hlt
          obtain ⟨pa, pc, hpv⟩ := hE.pl.len
          have c15 : wr.cell? ⟨b, off + j * 16 + 15, none⟩ = some (.slice pa (os j).l.length pc) := by rw [← hpv]; exact hE.cell 15 _ rfl
          generalize hL : (os j).l.length = L at *
          by_cases h256 : L ≤ 256
          · have hd : decide ((256 : Int) < (L : Int)) = false := decide_eq_false (by omega)
            go_wp2_with fail
            go_roundw
            case rel =>
              refine ⟨j + 1, by go_num, by omega, by trivial, fun i hi => ?_⟩
              by_cases e : i = j
              · subst e; omega
              · exact hes i (by omega)
            case measure => simp [intOf]; omega
          · have hd : decide ((256 : Int) < (L : Int)) = true := decide_eq_true (by omega)
            go_wp2_with fail
            go_ret
            exact ⟨rfl, grf _ _⟩
        · obtain rfl : j = m := by omega
          have HOS : Hid (∀ i, i < j → (os i).l.length ≤ 256) := hes
          clear hes hlt
          obtain ⟨w, hw⟩ : ∃ w, w = wr := ⟨_, rfl⟩
          subst hw
          go_upto_region 14 with (refine mm_u rfl rfl ?_; intro w1 C1 g1 s1)
          go_wp2_with (refine mm_u rfl rfl ?_; intro w2 C2 g2 s2)
          have C2a := C1.f0 g2
          have C2b : Cat w2 (w.heap.size + 1) 0 (fun _ => none) := by rw [← s1]; exact C2
          have G2 := gtr g1 g2
          clear C1 C2 g1 g2
          go_loopw [11] (fun v11 wr => ∃ i : Nat, v11 = .int .i64 i ∧ i ≤ k ∧ Cat wr w.heap.size i (fc es i) ∧ Cat wr (w.heap.size + 1) i (fc es i) ∧ w.grownBy wr none) (fun v11 _ => k - (intOf v11).toNat)
          case atStart => exact ⟨0, rfl, Nat.zero_le _, C2a, C2b, G2⟩
          case round =>
            obtain ⟨i, rfl, hi1, D1, D2, G⟩ := hrel
            by_cases hlt : i < k
            · obtain ⟨b, off, rfl, hb, hE⟩ := HC.out i hlt
              have hlen : (es i).l.length ≤ 256 := HES.out i hlt
              have hix := ix_lt (es i).e
              have hfs : fc es (i + 1) = upd (fc es i) (es i).e.ix ((es i).e.hd, (es i).l) := rfl
              have hnm : (es i).e.hd.nm = nmB (es i).e.ix := rfl
              have HBk : Hid (∀ wz, w.grownBy wz none → Calls Yba.prog 4 #[(es i).e.val (es i).pv] wz fun e' w' => ∃ v, e' = .returned ((es i).e.hd.val v) ∧ Pl w' v (es i).l ∧ wz.grownBy w' none) := fun wz g => block_u (es i).e (es i).pv (es i).l wz (hE.pl.f0 g) hE.n0 hE.n1 (by omega)
              have HE : Hid (∀ wz, w.grownBy wz none → EnAt wz b (off + i * 16) (es i)) := fun wz g => hE.f0 hb g
              clear hE
              have E1 := HE.out wr G
              generalize hei : es i = ei at *
              generalize hix' : ei.e.ix = q at *
              generalize hhd : ei.e.hd = hd at *
              go_upto_region 19 with (first
                | (refine lde_u rfl _ rfl b (off + i * 16) rfl E1 ?_; go_frame)
                | (go_at_call 4; refine Calls.mono (HBk.out _ G) ?_; rintro e w2 ⟨v2, rfl, hp2, g2⟩)
                | (refine al_u rfl rfl ?_; intro w3 x3 g3 s3)
                | (refine st_u rfl _ _ rfl _ rfl hd v2 rfl x3 hp2.sl ?_; intro w4 x4 g4 s4))
              have g24 : w2.grownBy w4 none := gnew g3 g4 (fun k e => by cases e; exact Nat.le_refl _)
              have g04 : wr.grownBy w4 none := gtr g2 g24
              have hp4 := hp2.f0 g24
              have G4 := gtr G g04
              have D1a := D1.f0 g04
              have D2a := D2.f0 g04
              have c0 : w4.cell? ⟨w2.heap.size, 0, none⟩ = some (.string (nmB q)) := by rw [← hnm]; exact x4.cell rfl
              go_upto_region 20 with (first
                | (refine ld_u rfl _ rfl _ rfl x4 ?_; go_frame)
                | (refine put_u _ rfl _ _ _ rfl w.heap.size i (fc es i) q hix hd ei.l v2 (by omega) rfl rfl rfl D1a hp4 hnm ?_; intro w5 D1b g5))
              have D2b := D2a.fr g5 (by simp <;> omega) D1a.nc
              have G5 : w.grownBy w5 none := gnew G4 g5 (fun k e => by cases e; omega)
              have E5 := HE.out w5 G5
              go_upto_region 21 with (first
                | (refine lde_u rfl _ rfl b (off + i * 16) rfl E5 ?_; go_frame)
                | (go_at_call 4; refine Calls.mono (HBk.out _ G5) ?_; rintro e w6 ⟨v6, rfl, hp6, g6⟩)
                | (refine al_u rfl rfl ?_; intro w7 x7 g7 s7)
                | (refine st_u rfl _ _ rfl _ rfl hd v6 rfl x7 hp6.sl ?_; intro w8 x8 g8 s8))
              have g68 : w6.grownBy w8 none := gnew g7 g8 (fun k e => by cases e; exact Nat.le_refl _)
              have g58 : w5.grownBy w8 none := gtr g6 g68
              have hp8 := hp6.f0 g68
              have G8 := gtr G5 g58
              have D1c := D1b.f0 g58
              have D2c := D2b.f0 g58
              have c8 : w8.cell? ⟨w6.heap.size, 0, none⟩ = some (.string (nmB q)) := by rw [← hnm]; exact x8.cell rfl
              clear c0
              go_wp2_with (first
                | (refine ld_u rfl _ rfl _ rfl x8 ?_; go_frame)
                | (refine put_u _ rfl _ _ _ rfl (w.heap.size + 1) i (fc es i) q hix hd ei.l v6 (by omega) rfl rfl rfl D2c hp8 hnm ?_; intro w9 D2d g9))
              go_roundw
              case rel =>
                have D1d := D1c.fr g9 (by simp <;> omega) D2c.nc
                have G9 : w.grownBy w9 none := gnew G8 g9 (fun k e => by cases e; omega)
                refine ⟨i + 1, by go_num, by omega, ?_, ?_, G9⟩
                · rw [hfs]; exact D1d
                · rw [hfs]; exact D2d
              case measure => simp [intOf]; omega
            · obtain rfl : i = k := by omega
              clear hlt
              obtain ⟨wa, hwa⟩ : ∃ wa, wa = wr := ⟨_, rfl⟩
              subst hwa
              have HOa : Hid (EntsAt wa bo j os) := fun i hi => by
                obtain ⟨b, off, e, hb, hE⟩ := HO.out i hi
                exact ⟨b, off, e, Nat.lt_of_lt_of_le hb G.size, hE.f0 hb G⟩
              have HFb : Hid (∀ q x, fc es i q = some x → x.2.length ≤ 256) := fc_bd es i HES.out i (Nat.le_refl _)
              have HD : Hid (Cat wa w.heap.size i (fc es i) ∧ Cat wa (w.heap.size + 1) i (fc es i) ∧ w.grownBy wa none) := ⟨D1, D2, G⟩
              obtain ⟨n1, hn1⟩ : ∃ n1, n1 = i := ⟨_, rfl⟩
              subst hn1
              have hbM : w.heap.size + 1 < wa.heap.size := D2.lt
              obtain ⟨M, hM⟩ : ∃ M, M = wa.heap.size := ⟨_, rfl⟩
              clear D1 D2 G C2a C2b G2 HC HO HES
              generalize fc es n1 = F at *
              go_upto_region 23 with (refine mm_u rfl rfl ?_; intro w1 C1 g1 s1)
              go_wp2_with (refine mm_u rfl rfl ?_; intro w2 C2 g2 s2)
              have C2a : Cat w2 M 0 (fun _ => none) := by rw [hM]; exact C1.f0 g2
              have C2b : Cat w2 (M + 1) 0 (fun _ => none) := by rw [hM, ← s1]; exact C2
              have G2 := gtr g1 g2
              rw [← hM]
              have hMa : wa.heap.size ≤ M := by omega
              have hMw : w.heap.size + 1 < M := by omega
              clear C1 C2 g1 g2 s1 s2 hM
              go_loopw [16] (fun v11 wr => ∃ i : Nat, v11 = .int .i64 i ∧ i ≤ j ∧ Cat wr M i (fc os i) ∧ Cat wr (M + 1) i (fc os i) ∧ wa.grownBy wr none) (fun v11 _ => j - (intOf v11).toNat)
              case atStart => exact ⟨0, rfl, Nat.zero_le _, C2a, C2b, G2⟩
              case round =>
                obtain ⟨i, rfl, hi1, D1, D2, G⟩ := hrel
                by_cases hlt : i < j
                · obtain ⟨b, off, rfl, hb, hE⟩ := HOa.out i hlt
                  have hlen : (os i).l.length ≤ 256 := HOS.out i hlt
                  have hix := ix_lt (os i).e
                  have hfs : fc os (i + 1) = upd (fc os i) (os i).e.ix ((os i).e.hd, (os i).l) := rfl
                  have hnm : (os i).e.hd.nm = nmB (os i).e.ix := rfl
                  have HBk : Hid (∀ wz, wa.grownBy wz none → Calls Yba.prog 4 #[(os i).e.val (os i).pv] wz fun e' w' => ∃ v, e' = .returned ((os i).e.hd.val v) ∧ Pl w' v (os i).l ∧ wz.grownBy w' none) := fun wz g => block_u (os i).e (os i).pv (os i).l wz (hE.pl.f0 g) hE.n0 hE.n1 (by omega)
                  have HE : Hid (∀ wz, wa.grownBy wz none → EnAt wz b (off + i * 16) (os i)) := fun wz g => hE.f0 hb g
                  clear hE
                  have E1 := HE.out wr G
                  generalize hei : os i = ei at *
                  generalize hix' : ei.e.ix = q at *
                  generalize hhd : ei.e.hd = hd at *
                  go_upto_region 28 with (first
                    | (refine lde_u rfl _ rfl b (off + i * 16) rfl E1 ?_; go_frame)
                    | (go_at_call 4; refine Calls.mono (HBk.out _ G) ?_; rintro e w2 ⟨v2, rfl, hp2, g2⟩)
                    | (refine al_u rfl rfl ?_; intro w3 x3 g3 s3)
                    | (refine st_u rfl _ _ rfl _ rfl hd v2 rfl x3 hp2.sl ?_; intro w4 x4 g4 s4))
                  have g24 : w2.grownBy w4 none := gnew g3 g4 (fun k e => by cases e; exact Nat.le_refl _)
                  have g04 : wr.grownBy w4 none := gtr g2 g24
                  have hp4 := hp2.f0 g24
                  have G4 := gtr G g04
                  have D1a := D1.f0 g04
                  have D2a := D2.f0 g04
                  have c0 : w4.cell? ⟨w2.heap.size, 0, none⟩ = some (.string (nmB q)) := by rw [← hnm]; exact x4.cell rfl
                  go_upto_region 29 with (first
                    | (refine ld_u rfl _ rfl _ rfl x4 ?_; go_frame)
                    | (refine put_u _ rfl _ _ _ rfl M i (fc os i) q hix hd ei.l v2 (by omega) rfl rfl rfl D1a hp4 hnm ?_; intro w5 D1b g5))
                  have D2b := D2a.fr g5 (by simp <;> omega) D1a.nc
                  have G5 : wa.grownBy w5 none := gnew G4 g5 (fun k e => by cases e; omega)
                  have E5 := HE.out w5 G5
                  go_upto_region 30 with (first
                    | (refine lde_u rfl _ rfl b (off + i * 16) rfl E5 ?_; go_frame)
                    | (go_at_call 4; refine Calls.mono (HBk.out _ G5) ?_; rintro e w6 ⟨v6, rfl, hp6, g6⟩)
                    | (refine al_u rfl rfl ?_; intro w7 x7 g7 s7)
                    | (refine st_u rfl _ _ rfl _ rfl hd v6 rfl x7 hp6.sl ?_; intro w8 x8 g8 s8))
                  have g68 : w6.grownBy w8 none := gnew g7 g8 (fun k e => by cases e; exact Nat.le_refl _)
                  have g58 : w5.grownBy w8 none := gtr g6 g68
                  have hp8 := hp6.f0 g68
                  have G8 := gtr G5 g58
                  have D1c := D1b.f0 g58
                  have D2c := D2b.f0 g58
                  have c8 : w8.cell? ⟨w6.heap.size, 0, none⟩ = some (.string (nmB q)) := by rw [← hnm]; exact x8.cell rfl
                  clear c0
                  go_wp2_with (first
                    | (refine ld_u rfl _ rfl _ rfl x8 ?_; go_frame)
                    | (refine put_u _ rfl _ _ _ rfl (M + 1) i (fc os i) q hix hd ei.l v6 (by omega) rfl rfl rfl D2c hp8 hnm ?_; intro w9 D2d g9))
                  go_roundw
                  case rel =>
                    have D1d := D1c.fr g9 (by simp <;> omega) D2c.nc
                    have G9 : wa.grownBy w9 none := gnew G8 g9 (fun k e => by cases e; omega)
                    refine ⟨i + 1, by go_num, by omega, ?_, ?_, G9⟩
                    · rw [hfs]; exact D1d
                    · rw [hfs]; exact D2d
                  case measure => simp [intOf]; omega
                · obtain rfl : i = j := by omega
                  clear hlt
                  obtain ⟨wb, hwb⟩ : ∃ wb, wb = wr := ⟨_, rfl⟩
                  subst hwb
                  obtain ⟨n2, hn2⟩ : ∃ n2, n2 = i := ⟨_, rfl⟩
                  subst hn2
                  have HGb : Hid (∀ q x, fc os n2 q = some x → x.2.length ≤ 256) := fc_bd os n2 HOS.out n2 (Nat.le_refl _)
                  have H5 : Hid (Cat wb w.heap.size n1 F ∧ Cat wb (w.heap.size + 1) n1 F ∧ Cat wb M n2 (fc os n2) ∧ Cat wb (M + 1) n2 (fc os n2) ∧ w.grownBy wb none) := ⟨HD.out.1.f0 G, HD.out.2.1.f0 G, D1, D2, gtr HD.out.2.2 G⟩
                  have hMb : M + 1 < wb.heap.size := D2.lt
                  clear D1 D2 G C2a C2b G2 HOa HOS HD
                  generalize fc os n2 = Gf at *
                  obtain ⟨M5, hM5⟩ : ∃ M5, M5 = wb.heap.size := ⟨_, rfl⟩
                  go_wp2_with (refine mk_u rfl _ _ rfl nm rfl rfl (by omega) ?_; intro w5 m5 g5 s5)
                  rw [← hM5] at m5 ⊢
                  have hM5b : wb.heap.size ≤ M5 := by omega
                  clear hM5 s5
                  go_loopw [20] (fun v20 wr => ∃ (q : Nat) (xs : List Int), v20 = .int .i64 q ∧ q ≤ nm ∧ Mk wr M5 xs ∧ xs.length = nm ∧ wb.grownBy wr none) (fun v20 _ => nm - (intOf v20).toNat)
                  case atStart => exact ⟨0, List.replicate nm 0, rfl, Nat.zero_le _, m5, by simp, g5⟩
                  case round =>
                    obtain ⟨q, xs, rfl, hq1, mm, hxs, gr⟩ := hrel
                    by_cases hlt : q < nm
                    · obtain ⟨bm, offm, rfl, cx⟩ : ∃ bm offm, mo = some ⟨bm, offm, none⟩ ∧ wr.cell? ⟨bm, offm + q, none⟩ = some (encU ms[q]!) := by
                        have := HM.out.f0 (gtr H5.out.2.2.2.2 gr)
                        rcases this with ⟨e, e2⟩ | ⟨ad7, cap7, e, hd7⟩
                        · exfalso; rw [e2] at hms; simp at hms; omega
                        · cases e
                          obtain ⟨b7, off7, e7, _, hc7⟩ := hd7 q (by omega)
                          exact ⟨b7, off7, by rw [e7], hc7⟩
                      have cy := mm.cell q (by omega)
                      have fy : wr.frozen? ⟨M5, q, none⟩ = false := frz mm
                      have HMk : Hid _ := mm.set q ms[q]!
                      clear mm m5 g5
                      generalize xs[q]! = x0 at *
                      generalize ms[q]! = x at *
                      go_wp2_with fail
                      go_roundw
                      case rel => exact ⟨q + 1, xs.set q x, by go_num, by omega, HMk.out, by simp [hxs], gnew gr (set_grown _ _ _ _) (fun k e => by cases e; omega)⟩
                      case measure => simp [intOf]; omega
                    · obtain rfl : q = nm := by omega
                      clear mm m5 g5 hlt
                      obtain ⟨wc0, hwc⟩ : ∃ wc0, wc0 = wr := ⟨_, rfl⟩
                      subst hwc
                      go_upto_region 37 with (refine alz_u rfl 58 rfl _ (Yba.zeroValue58 _) ?_; intro w6 g6)
                      have g56 : wb.grownBy w6 none := gtr gr g6
                      obtain ⟨A1, A2, D1, D2, GW⟩ := H5.out
                      have A1' := A1.f0 g56
                      have A2' := A2.f0 g56
                      have D1' := D1.f0 g56
                      have D2' := D2.f0 g56
                      have GW' := gtr GW g56
                      have HJ : Hid (∀ sv mv, Calls Yba.prog 5 #[sv, .map (some w.heap.size), .map (some M), mv] w6 fun e w' => e = .returned (.tuple #[]) ∧ (∃ H, Cat w' w.heap.size (n1 + 8) H ∧ ∀ i, i < 8 → H i = jn F Gf i) ∧ Cat w' M n2 Gf ∧ w6.grownBy w' (some w.heap.size)) := fun sv mv => join_u w.heap.size M n1 n2 F Gf sv mv w6 A1' D1' (by omega) HFb.out HGb.out (by omega)
                      have hnc := A1'.nc
                      clear A1 A2 D1 D2 GW H5 gr g6 g56
                      go_upto_region 39 with (go_at_call 5; refine Calls.mono (HJ.out _ _) ?_; rintro e w7 ⟨rfl, ⟨H, A17, hH⟩, D17, g7⟩)
                      have A27 := A2'.fr g7 (by simp) hnc
                      have D27 := D2'.fr g7 (by simp; omega) hnc
                      have GW7 : w.grownBy w7 none := gnew GW' g7 (fun k e => by cases e; exact Nat.le_refl _)
                      clear A1' A2' D1' D2' GW' HJ hnc g7
                      have H7 : Hid (Cat w7 w.heap.size (n1 + 8) H ∧ Cat w7 (w.heap.size + 1) n1 F ∧ Cat w7 M n2 Gf ∧ Cat w7 (M + 1) n2 Gf ∧ w.grownBy w7 none) := ⟨A17, A27, D17, D27, GW7⟩
                      have HH : Hid (∀ i, i < 8 → H i = jn F Gf i) := hH
                      clear A17 A27 D17 D27 GW7 hH
                      go_wp2_with fail
                      go_loopw [23, 22] (fun v23 v22 wr => ∃ q : Nat, v23 = .int .i64 q ∧ q ≤ 8 ∧ v22 = .int .i64 (cnt H q : Nat) ∧ w7.grownBy wr none) (fun v23 _ _ => 8 - (intOf v23).toNat)
                      case atStart => exact ⟨0, rfl, by omega, rfl, grf _ _⟩
                      case round =>
                        obtain ⟨q, rfl, hq8, rfl, gr⟩ := hrel
                        have hcq := cnt_le H q
                        obtain ⟨A1, A2, D1, D2, GW⟩ := H7.out
                        have A1r := A1.f0 gr
                        have A2r := A2.f0 gr
                        have D1r := D1.f0 gr
                        have D2r := D2.f0 gr
                        by_cases hlt : q < 8
                        · have hHq : Hid (H q = jn F Gf q) := HH.out q hlt
                          clear A1 A2 D1 D2
                          go_upto_region 44 with (first
                            | (refine nm_u rfl 147 149 rfl q hlt rfl rfl ?_; go_frame)
                            | (refine look_ok_u _ rfl _ _ rfl (w.heap.size + 1) n1 F q hlt rfl rfl A2r ?_; intro hc lc pc hpc hvc)
                            | (refine al_u rfl rfl ?_; intro w8 x8 g8 s8)
                            | (refine st_u rfl _ _ rfl _ rfl hc pc rfl x8 hpc.sl ?_; intro w9 x9 g9 s9))
                          have gr9 : wr.grownBy w9 none := gnew g8 g9 (fun k e => by cases e; exact Nat.le_refl _)
                          have D29 := D2r.f0 gr9
                          clear s8 s9
                          go_upto_region 45 with (first
                            | (refine look_ok_u _ rfl _ _ rfl (M + 1) n2 Gf q hlt rfl rfl D29 ?_; intro hb lb pb hpb hvb)
                            | (refine al_u rfl rfl ?_; intro w10 x10 g10 s10)
                            | (refine st_u rfl _ _ rfl _ rfl hb pb rfl x10 hpb.sl ?_; intro w11 x11 g11 s11))
                          have g911 : w9.grownBy w11 none := gnew g10 g11 (fun k e => by cases e; exact Nat.le_refl _)
                          have A111 := A1r.f0 (gtr gr9 g911)
                          clear s10 s11
                          go_upto_region 46 with (first
                            | (refine look_ok_u _ rfl _ _ rfl w.heap.size (n1 + 8) H q hlt rfl rfl A111 ?_; intro hg lg pg hpg hvg)
                            | (refine al_u rfl rfl ?_; intro w12 x12 g12 s12)
                            | (refine st_u rfl _ _ rfl _ rfl hg pg rfl x12 hpg.sl ?_; intro wz x13 g13 s13))
                          have g1113 : w11.grownBy wz none := gnew g12 g13 (fun k e => by cases e; exact Nat.le_refl _)
                          clear s12 s13
                          have grz : wr.grownBy wz none := gtr gr9 (gtr g911 g1113)
                          have X25 := x9.f0 (gtr g911 g1113)
                          have X27 := x11.f0 g1113
                          have X29 := x13
                          have D1z := D1r.f0 grz
                          have Gz := gtr gr grz
                          have hpc' := hpc.f0 grz
                          have hpb' := hpb.f0 (gtr g911 g1113)
                          have hpg' := hpg.f0 g1113
                          have hlc : lc.length ≤ 256 := by
                            rcases hvc with ⟨e, _⟩ | ⟨_, _, rfl⟩
                            · exact HFb.out q _ e
                            · simp
                          have hlb : lb.length ≤ 256 := by
                            rcases hvb with ⟨e, _⟩ | ⟨_, _, rfl⟩
                            · exact HGb.out q _ e
                            · simp
                          have hlg : lg.length ≤ 600 := by
                            rcases hvg with ⟨e, _⟩ | ⟨_, _, rfl⟩
                            · rw [hHq.out] at e
                              unfold jn at e
                              cases hG : Gf q with
                              | none => rw [hG] at e; have := HFb.out q _ e; dsimp only at this; omega
                              | some x =>
                                rw [hG] at e
                                have := meetF_len (HFb.out q) (HGb.out q x hG)
                                rw [Option.some.inj e] at this
                                exact this
                            · simp
                          clear A1r A2r D1r D2r D29 A111 hpc hpb hpg x9 x11 x12 x8 x10 g8 g9 g10 g11 g12 g13 gr9 g911 g1113 grz
                          cases hFq : F q with
                          | none =>
                            obtain ⟨_, rfl, rfl⟩ : F q = none ∧ hc = zHd ∧ lc = [] := by
                              rcases hvc with ⟨e, _⟩ | h
                              · rw [hFq] at e; cases e
                              · exact h
                            cases hGq : Gf q with
                            | none =>
                              have hHz : H q = none := by rw [hHq.out]; simp [jn, hFq, hGq]
                              have hcnt : cnt H (q + 1) = cnt H q := by
                                show cnt H q + _ = _
                                rw [hHz]; rfl
                              rw [hHz]
                              go_wp2_with fail
                              go_roundw
                              case rel => exact ⟨q + 1, by go_num, by omega, by rw [hcnt], Gz⟩
                              case measure => simp [intOf]; omega
                            | some x =>
                              obtain rfl : x = (hb, lb) := by
                                rcases hvb with ⟨e, _⟩ | ⟨e, _, _⟩
                                · rw [hGq] at e; exact Option.some.inj e
                                · rw [hGq] at e; cases e
                              have hHz : H q = some (meetF (F q) (hb, lb)) := by rw [hHq.out]; simp [jn, hGq]
                              have hzz : meetF (F q) (hb, lb) = (hg, lg) := by
                                rcases hvg with ⟨e, _⟩ | ⟨e, _, _⟩
                                · rw [hHz] at e; exact Option.some.inj e
                                · rw [hHz] at e; cases e
                              have HM6 : Hid (∀ wq, wz.grownBy wq none → Calls Yba.prog 6 #[zHd.val pc, .bool false, hb.val pb] wq fun e w' => ∃ v, e = .returned (hg.val v) ∧ Pl w' v lg ∧ wq.grownBy w' none ∧ ∀ k, v.ownBlock = some k → pb.ownBlock = some k ∨ wq.heap.size ≤ k) := fun wq g => by
                                have := zzmeet_u zHd hb pc pb [] lb false wq (hpc'.f0 g) (hpb'.f0 g) (by omega) (by omega)
                                rw [show (if (false = true) then some (zHd, ([] : List Int)) else none) = F q from by rw [hFq]; rfl, hzz] at this
                                exact this
                              have hcnt : cnt H (q + 1) = cnt H q + 1 := by
                                show cnt H q + _ = _
                                rw [hHz]; rfl
                              rw [hHz]
                              go_upto_region 53 with (first
                                | (refine ld_u rfl (.tmp 25) rfl _ rfl X25 ?_; go_frame)
                                | (refine al_u rfl rfl ?_; intro w14 x14 g14 s14)
                                | (refine st_u rfl _ _ rfl _ rfl zHd pc rfl x14 hpc'.sl ?_; intro w15 x15 g15 s15))
                              have gz5 : wz.grownBy w15 none := gnew g14 g15 (fun k e => by cases e; exact Nat.le_refl _)
                              have Y25 := X25.f0 gz5
                              have Y27 := X27.f0 gz5
                              clear s14 s15
                              go_upto_region 55 with (first
                                | (refine ld_u rfl (.tmp 25) rfl _ rfl Y25 ?_; go_frame)
                                | (refine ld_u rfl (.tmp 27) rfl _ rfl Y27 ?_; go_frame)
                                | (go_at_call 6; refine Calls.mono (HM6.out _ gz5) ?_; rintro e w16 ⟨v16, rfl, hp16, g16, hk16⟩)
                                | (refine st_u rfl _ _ rfl _ rfl hg v16 rfl (x15.f0 g16) hp16.sl ?_; intro w17 x17 g17 s17))
                              have gz7 : wz.grownBy w17 none := gnew (gtr gz5 g16) g17 (fun k e => by cases e; exact Nat.le_refl _)
                              have hp17 : Pl w17 v16 lg := hp16.fb g17 (fun k hk e => by cases e; rcases hk16 _ hk with h | h; (have := hpb'.lt _ h; omega); (have := x15.lt; omega))
                              have V27 := X27.f0 gz7
                              have V29 := X29.f0 gz7
                              have D1v := D1z.f0 gz7
                              clear s17
                              go_upto_region 57 with (first
                                | (refine look_s rfl _ _ rfl M n2 Gf q hlt hb lb hGq rfl rfl D1v ?_; intro p18 hp18; go_frame)
                                | (refine ld_u rfl (.tmp 27) rfl _ rfl V27 ?_; go_frame)
                                | (go_at_call 7; refine Calls.mono (zzeq_t hb p18 pb lb _ hp18 (hpb'.f0 gz7) (by omega)) ?_; rintro e w18 ⟨rfl, g18⟩))
                              have U29 := V29.f0 g18
                              have U31 := x17.f0 g18
                              go_wp2_with (first
                                | (refine ld_u rfl (.tmp 29) rfl _ rfl U29 ?_; go_frame)
                                | (refine ld_u rfl (.tmp 31) rfl _ rfl U31 ?_; go_frame)
                                | (go_at_call 7; refine Calls.mono (zzeq_t hg pg v16 lg _ ((hpg'.f0 gz7).f0 g18) (hp17.f0 g18) (by omega)) ?_; rintro e w19 ⟨rfl, g19⟩))
                              go_roundw
                              case rel => exact ⟨q + 1, by go_num, by omega, by rw [hcnt]; go_num, gtr Gz (gtr gz7 (gtr g18 g19))⟩
                              case measure => simp [intOf]; omega
                          | some y =>
                            obtain rfl : y = (hc, lc) := by
                              rcases hvc with ⟨e, _⟩ | ⟨e, _, _⟩
                              · rw [hFq] at e; exact Option.some.inj e
                              · rw [hFq] at e; cases e
                            cases hGq : Gf q with
                            | none =>
                              have hHz : H q = some (hc, lc) := by rw [hHq.out]; simp [jn, hFq, hGq]
                              obtain ⟨rfl, rfl⟩ : hg = hc ∧ lg = lc := by
                                rcases hvg with ⟨e, _⟩ | ⟨e, _, _⟩
                                · rw [hHz] at e; cases e; exact ⟨rfl, rfl⟩
                                · rw [hHz] at e; cases e
                              have hcnt : cnt H (q + 1) = cnt H q + 1 := by
                                show cnt H q + _ = _
                                rw [hHz]; rfl
                              rw [hHz]
                              go_upto_region 53 with (first
                                | (refine ld_u rfl (.tmp 25) rfl _ rfl X25 ?_; go_frame)
                                | (refine al_u rfl rfl ?_; intro w14 x14 g14 s14)
                                | (refine st_u rfl _ _ rfl _ rfl hg pc rfl x14 hpc'.sl ?_; intro w15 x15 g15 s15))
                              have gz5 : wz.grownBy w15 none := gnew g14 g15 (fun k e => by cases e; exact Nat.le_refl _)
                              have Y29 := X29.f0 gz5
                              clear s14 s15
                              go_wp2_with (first
                                | (refine ld_u rfl (.tmp 29) rfl _ rfl Y29 ?_; go_frame)
                                | (refine ld_u rfl (.tmp 31) rfl _ rfl x15 ?_; go_frame)
                                | (go_at_call 7; refine Calls.mono (zzeq_t hg pg pc lg _ (hpg'.f0 gz5) (hpc'.f0 gz5) (by omega)) ?_; rintro e w19 ⟨rfl, g19⟩))
                              go_roundw
                              case rel => exact ⟨q + 1, by go_num, by omega, by rw [hcnt]; go_num, gtr Gz (gtr gz5 g19)⟩
                              case measure => simp [intOf]; omega
                            | some x =>
                              obtain rfl : x = (hb, lb) := by
                                rcases hvb with ⟨e, _⟩ | ⟨e, _, _⟩
                                · rw [hGq] at e; exact Option.some.inj e
                                · rw [hGq] at e; cases e
                              have hHz : H q = some (meetF (F q) (hb, lb)) := by rw [hHq.out]; simp [jn, hGq]
                              have hzz : meetF (F q) (hb, lb) = (hg, lg) := by
                                rcases hvg with ⟨e, _⟩ | ⟨e, _, _⟩
                                · rw [hHz] at e; exact Option.some.inj e
                                · rw [hHz] at e; cases e
                              have HM6 : Hid (∀ wq, wz.grownBy wq none → Calls Yba.prog 6 #[hc.val pc, .bool true, hb.val pb] wq fun e w' => ∃ v, e = .returned (hg.val v) ∧ Pl w' v lg ∧ wq.grownBy w' none ∧ ∀ k, v.ownBlock = some k → pb.ownBlock = some k ∨ wq.heap.size ≤ k) := fun wq g => by
                                have := zzmeet_u hc hb pc pb lc lb true wq (hpc'.f0 g) (hpb'.f0 g) (by omega) (by omega)
                                rw [show (if (true = true) then some (hc, lc) else none) = F q from by rw [hFq]; rfl, hzz] at this
                                exact this
                              have hcnt : cnt H (q + 1) = cnt H q + 1 := by
                                show cnt H q + _ = _
                                rw [hHz]; rfl
                              rw [hHz]
                              go_upto_region 53 with (first
                                | (refine ld_u rfl (.tmp 25) rfl _ rfl X25 ?_; go_frame)
                                | (refine al_u rfl rfl ?_; intro w14 x14 g14 s14)
                                | (refine st_u rfl _ _ rfl _ rfl hc pc rfl x14 hpc'.sl ?_; intro w15 x15 g15 s15))
                              have gz5 : wz.grownBy w15 none := gnew g14 g15 (fun k e => by cases e; exact Nat.le_refl _)
                              have Y25 := X25.f0 gz5
                              have Y27 := X27.f0 gz5
                              clear s14 s15
                              go_upto_region 55 with (first
                                | (refine ld_u rfl (.tmp 25) rfl _ rfl Y25 ?_; go_frame)
                                | (refine ld_u rfl (.tmp 27) rfl _ rfl Y27 ?_; go_frame)
                                | (go_at_call 6; refine Calls.mono (HM6.out _ gz5) ?_; rintro e w16 ⟨v16, rfl, hp16, g16, hk16⟩)
                                | (refine st_u rfl _ _ rfl _ rfl hg v16 rfl (x15.f0 g16) hp16.sl ?_; intro w17 x17 g17 s17))
                              have gz7 : wz.grownBy w17 none := gnew (gtr gz5 g16) g17 (fun k e => by cases e; exact Nat.le_refl _)
                              have hp17 : Pl w17 v16 lg := hp16.fb g17 (fun k hk e => by cases e; rcases hk16 _ hk with h | h; (have := hpb'.lt _ h; omega); (have := x15.lt; omega))
                              have V27 := X27.f0 gz7
                              have V29 := X29.f0 gz7
                              have D1v := D1z.f0 gz7
                              clear s17
                              go_upto_region 57 with (first
                                | (refine look_s rfl _ _ rfl M n2 Gf q hlt hb lb hGq rfl rfl D1v ?_; intro p18 hp18; go_frame)
                                | (refine ld_u rfl (.tmp 27) rfl _ rfl V27 ?_; go_frame)
                                | (go_at_call 7; refine Calls.mono (zzeq_t hb p18 pb lb _ hp18 (hpb'.f0 gz7) (by omega)) ?_; rintro e w18 ⟨rfl, g18⟩))
                              have U29 := V29.f0 g18
                              have U31 := x17.f0 g18
                              go_wp2_with (first
                                | (refine ld_u rfl (.tmp 29) rfl _ rfl U29 ?_; go_frame)
                                | (refine ld_u rfl (.tmp 31) rfl _ rfl U31 ?_; go_frame)
                                | (go_at_call 7; refine Calls.mono (zzeq_t hg pg v16 lg _ ((hpg'.f0 gz7).f0 g18) (hp17.f0 g18) (by omega)) ?_; rintro e w19 ⟨rfl, g19⟩))
                              go_roundw
                              case rel => exact ⟨q + 1, by go_num, by omega, by rw [hcnt]; go_num, gtr Gz (gtr gz7 (gtr g18 g19))⟩
                              case measure => simp [intOf]; omega
                        · obtain rfl : q = 8 := by omega
                          clear A1 A2 D1 D2
                          go_wp2_with (first
                            | (refine leng_u (by rfl) _ rfl w.heap.size (n1 + 8) H rfl A1r ?_)
                            | (refine leng_u (by rfl) _ rfl M n2 Gf rfl D1r ?_)
                            | (refine leng_u (by rfl) _ rfl (M + 1) n2 Gf rfl D2r ?_))
                          go_ret
                          exact ⟨by simp, gtr GW gr⟩
end Go.Proofs.Ybulkdbmw

import Derived.Test.YbulkdbmwAd0
import Derived.Test.YbulkdbmwEq
import Derived.Test.YbulkdbmwIter
namespace Go.Proofs.Ybulkdbmw
open Go Go.RowKit Go.Sort Go.Shelf Go.Lib

theorem Ap.step {w w' : World} {base : Nat} {v x : Value} {m : Nat} (h : Ap w base v) (hw : Wo w base x m) (hl : ∀ k, v.ownBlock = some k → k < w.heap.size) (g : w.grownBy w' x.ownBlock) : Ap w' base v := fun k hk => by
  rcases h k hk with h1 | ⟨cs, h1⟩
  · exact Or.inl h1
  · exact Or.inr ⟨cs, (g.block k (hl k hk) (fun e => h.ne hw k hk e.symm)).trans h1⟩
theorem Ap.f0 {w w' : World} {base : Nat} {v : Value} (h : Ap w base v) (hl : ∀ k, v.ownBlock = some k → k < w.heap.size) (g : w.grownBy w' none) : Ap w' base v := fun k hk => by
  rcases h k hk with h1 | ⟨cs, h1⟩
  · exact Or.inl h1
  · exact Or.inr ⟨cs, (g.block k (hl k hk) (by simp)).trans h1⟩
theorem Pl.lt {w : World} {v : Value} {l : List Int} (h : Pl w v l) : ∀ k, v.ownBlock = some k → k < w.heap.size := fun k hk => by
  rcases h with ⟨rfl, _⟩ | ⟨b, off, cap, rfl, _, hb, _⟩
  · cases hk
  · cases hk; exact hb
theorem nm_ne {i j : Nat} (hi : i < 8) (hj : j < 8) (h : ¬ i = j) : ¬ (nmB i).toList = (nmB j).toList := fun e => h (ky_inj hi hj (by
  have := bytes_inj e
  unfold nmB at this
  unfold ky
  simp only [ByteArray.mk.injEq, Array.mk.injEq, List.cons.injEq, and_true] at this
  rw [this]))
theorem Wo.len {w : World} {base : Nat} {v : Value} {m : Nat} (h : Wo w base v m) : ∃ a c, v = .slice a m c := by
  obtain ⟨cs, h⟩ := h
  rcases h.2 with ⟨e, e2⟩ | ⟨gg, cp, cur, e, _⟩
  · exact ⟨none, 0, by rw [e, e2]⟩
  · exact ⟨_, _, e⟩

set_option maxHeartbeats 6400000 in
set_option maxRecDepth 100000 in
theorem admit_u (mb n : Nat) (F : Ent) (i : Nat) (hi : i < 8) (h : Hd) (p mv : Value) (l : List Int) (w : World) (hc : Cat w mb n F) (hB : Bd F) (hp : Pl w p l) (hl : l.length ≤ 600) (hn : h.nm = nmB i) (hnn : n < 100000) :
    Calls Yba.prog 12 #[.map (some mb), h.val p, mv] w fun e w' => ∃ v, e = .returned v ∧ Cat w' mb (n + 1) (upd F i (h, l)) ∧ w.grownBy w' (some mb) := by
  have hmb := hc.lt
  have hc8 := cnt_le F 8
  have HC : Hid (Cat w mb n F) := hc
  have HB : Hid (Bd F) := hB
  have HP : Hid (Pl w p l) := hp
  have HN : Hid (h.nm = nmB i) := hn
  clear hc hB hp hn
  go_enter Yba.func12, Yba.ntmps12
  go_wp2_with (first
    | (refine bo_u rfl (.tmp 1) rfl h p rfl ?_; intro w1 x1 g1 s1)
    | (at_range; refine range_q _ rfl _ rfl w mb n F rfl HC.out g1 ?_; intro w2 hq2 g2 s2))
  go_frame
  rw [s1] at *
  have X2 := x1.f0 g2
  have G2 := gtr g1 g2
  clear x1 g1 g2
  go_loopw [8] (fun v8 wr => ∃ (c m : Nat), Wo wr (w.heap.size + 1 + 1) v8 m ∧ m + c * 600 ≤ 4800 ∧ CatQ wr w mb (w.heap.size + 1) n F c ∧ Bx wr w.heap.size h p ∧ w.grownBy wr none ∧ w.heap.size + 1 + 1 ≤ wr.heap.size) (fun _ wr => wr.rangeLeft mb (w.heap.size + 1))
  case atStart => exact ⟨cnt F 8, 0, Wo.nil _ _, by omega, hq2, X2, G2, by omega⟩
  case round =>
    obtain ⟨c, m, hW, hm, hq, X, G, hbs⟩ := hrel
    have hleft := hq.left_eq
    clear hq2 X2 G2
    go_upto_if 29 with (at_next; refine next_q _ rfl _ rfl w mb (w.heap.size + 1) n c F rfl hq (fun h0 => ?_) (fun i' hd ld pd w3 c2 hi' hF hpd hnm hq3 hlt hg3 hs3 hen => ?_))
    · have HL : Hid (Calls Yba.prog 22 #[h.val p] wr fun e w' => ∃ v, e = .returned v ∧ Pl w' v (listedOf h l) ∧ wr.grownBy w' none ∧ (∀ k, v.ownBlock = some k → p.ownBlock = some k ∨ ∃ cs, w'.heap[k]? = some (.cells cs 31 (0, 0)))) := listed_u2 h p l wr (HP.out.f0 G) (by omega)
      have hll := listed_len h l
      have hpl := HP.out.lt
      clear hq hleft
      go_upto_region 12 with (first
        | (refine ld_u rfl (.tmp 4) rfl _ rfl X ?_; go_frame)
        | (go_at_call 22; refine Calls.mono HL.out ?_; rintro e w6 ⟨v6, rfl, hp6, g6, hv6⟩; obtain ⟨va, vc, rfl⟩ := hp6.len))
      have hA6 : Ap w6 (w.heap.size + 1 + 1) (.slice va (listedOf h l).length vc) := fun k hk => by
        rcases hv6 k hk with h1 | h1
        · exact Or.inl (by have := hpl k h1; omega)
        · exact Or.inr h1
      have hW6 := hW.f0 g6
      have X6 := X.f0 g6
      have G6 := gtr G g6
      have hz6 : w.heap.size + 1 + 1 ≤ w6.heap.size := Nat.le_trans hbs g6.size
      clear hW X G hbs HL hv6 g6 hpl
      generalize listedOf h l = Ls at *
      generalize hLn : Ls.length = L at *
      go_loopw [54, 8] (fun v54 v8 wr => ∃ (k m' : Nat), v54 = .int .i64 k ∧ k ≤ L ∧ Wo wr (w.heap.size + 1 + 1) v8 m' ∧ m' ≤ m + k ∧ Bx wr w.heap.size h p ∧ Pl wr (.slice va L vc) Ls ∧ Ap wr (w.heap.size + 1 + 1) (.slice va L vc) ∧ w.grownBy wr none ∧ w.heap.size + 1 + 1 ≤ wr.heap.size) (fun v54 _ _ => L - (intOf v54).toNat)
      case atStart => exact ⟨0, m, rfl, Nat.zero_le _, hW6, by omega, X6, hp6, hA6, G6, hz6⟩
      case round =>
        obtain ⟨k, m', rfl, hk, hW, hm', X, hp7, hA, G, hz⟩ := hrel
        have c0 : wr.cell? ⟨w.heap.size, 0, none⟩ = some (.string (nmB i)) := by rw [← HN.out]; exact X.cell rfl
        by_cases hlt' : k < L
        · obtain ⟨b7, off7, rfl, cx⟩ : ∃ b7 off7, va = some ⟨b7, off7, none⟩ ∧ wr.cell? ⟨b7, off7 + k, none⟩ = some (encU Ls[k]!) := by
            rcases hp7 with ⟨e, e2⟩ | ⟨b7, off7, cap7, e, _, _, hd7⟩
            · exfalso; rw [e2] at hLn; simp at hLn; omega
            · cases e; exact ⟨b7, off7, rfl, hd7 k (by omega)⟩
          have HV : Hid (Wo wr (w.heap.size + 1 + 1) u8 m' ∧ Bx wr w.heap.size h p ∧ Pl wr (.slice (some ⟨b7, off7, none⟩) L vc) Ls ∧ Ap wr (w.heap.size + 1 + 1) (.slice (some ⟨b7, off7, none⟩) L vc) ∧ w.grownBy wr none) := ⟨hW, X, hp7, hA, G⟩
          clear hW X hp7 hA G hW6 X6 G6 hp6 hA6
          generalize Ls[k]! = x at *
          go_wp2_with (at_builtin; refine appw_u rfl (.tmp 58) (.tmp 63) rfl (w.heap.size + 1 + 1) u8 m' wr.heap.size (nmB i) x rfl rfl (HV.out.1.f0 (gA _ _)) (ct rfl rfl) (ct rfl rfl) (by omega) (by simp; omega) ?_; intro v9 w9 hW9 g9)
          go_roundw
          case rel =>
            obtain ⟨hW, X, hp7, hA, G⟩ := HV.out
            have hWa := hW.f0 (gA wr (.cells #[.string (nmB i), .int .u32 x] 83))
            have hAa := hA.f0 hp7.lt (gA wr (.cells #[.string (nmB i), .int .u32 x] 83))
            have hpa := hp7.f0 (gA wr (.cells #[.string (nmB i), .int .u32 x] 83))
            have hob := hWa.lt
            exact ⟨k + 1, m' + 1, by go_num, by omega, hW9, by omega, (X.f0 (gA _ _)).fr g9 (fun e => by have := hob _ e.symm; omega), hpa.fb g9 (fun k hk e => hAa.ne hWa k hk e), hAa.step hWa hpa.lt g9, gnew (gtr G (gA _ _)) g9 (fun k e => by have := hob k e; omega), Nat.le_trans hz (Nat.le_trans (gA wr _).size g9.size)⟩
          case measure => simp [intOf]; omega
        · obtain rfl : k = L := by omega
          obtain ⟨wa, hwa⟩ : ∃ wa, wa = wr := ⟨_, rfl⟩
          subst hwa
          have HS : Hid (Calls Yba.prog 23 #[.map (some mb), h.val p] wa fun e w' => ∃ r : Int, e = .returned (.int .i64 r) ∧ -5000 ≤ r ∧ r ≤ 30000 ∧ wa.grownBy w' none) := sizeWith_u mb n F i hi h p l wa (HC.out.f0 G) HB.out (HP.out.f0 G) hl HN.out
          have hm5 : m' ≤ 6000 := by omega
          obtain ⟨wv, wc', rfl⟩ := hW.len
          clear hW hp7 hA hW6 X6 G6 hp6 hA6 hm' hm hk hLn hll hz6
          go_upto_region 17 with (first
            | (refine ld_u rfl (.tmp 4) rfl _ rfl X ?_; go_frame)
            | (go_at_call 23; refine Calls.mono HS.out ?_; rintro e w8 ⟨r8, rfl, hr8, hr8', g8⟩))
          have hr0 : 0 ≤ 98304 - r8 + 4 * (m' : Int) := by omega
          have hr1 : (m' : Int) ≤ (98304 - r8 + 4 * (m' : Int)) / 4 := by omega
          go_upto_region 38 with fail
          have X8 := X.f0 g8
          have G8 := gtr G g8
          have C8 := HC.out.f0 G8
          have c8 : w8.cell? ⟨w.heap.size, 0, none⟩ = some (.string (nmB i)) := by rw [← HN.out]; exact X8.cell rfl
          have hz8 : w.heap.size + 1 + 1 ≤ w8.heap.size := Nat.le_trans hz g8.size
          clear X G g8 c0 HS hz
          go_upto_region 39 with (first
            | (refine look_ok_u _ rfl _ _ rfl mb n F i hi rfl rfl C8 ?_; intro hd ld pd hpd hlv)
            | (refine al_u rfl rfl ?_; intro w9 x9 g9 s9)
            | (refine st_u rfl _ _ rfl _ rfl hd pd rfl x9 hpd.sl ?_; intro w10 x10 g10 s10))
          have g810 : w8.grownBy w10 none := gnew g9 g10 (fun k e => by cases e; exact Nat.le_refl _)
          have X10 := X8.f0 g810
          have G10 := gtr G8 g810
          have hpd10 := hpd.f0 g810
          have hp10 := HP.out.f0 G10
          have hld : ld.length < 100000 := by
            rcases hlv with ⟨hFi, _⟩ | ⟨_, _, rfl⟩
            · have := HB.out _ _ hFi; dsimp only at this; omega
            · simp
          clear X8 G8 C8 c8 g9 g10 g810 hpd x9
          obtain ⟨bq, hbq⟩ : ∃ bq : Bool, bq = true ↔ F i ≠ some (h, l) := by
            by_cases hx : F i = some (h, l)
            · exact ⟨false, by simp [hx]⟩
            · exact ⟨true, by simp [hx]⟩
          generalize hbs : (F i).isSome = bs at *
          go_cut [170] (fun s170 wx => s170 = .bool bq ∧ w10.grownBy wx none)
          case first =>
            rcases hlv with ⟨hFi, hnm⟩ | ⟨hFi, rfl, rfl⟩
            · have HE : Hid (Calls Yba.prog 11 #[hd.val pd, h.val p] w10 fun e w' => e = .returned (.bool (decide (hd = h ∧ ld = l))) ∧ w10.grownBy w' none) := eq_u hd h pd p ld l w10 hpd10 hp10 hld (by omega)
              have hbq' : bq = !(decide (hd = h ∧ ld = l)) := by
                rw [Bool.eq_iff_iff, hbq, hFi]
                simp only [ne_eq, Option.some.injEq, Prod.mk.injEq, Bool.not_eq_true', decide_eq_false_iff_not]
              obtain rfl : bs = true := by rw [← hbs, hFi]; rfl
              go_wp2_with (first
                | (refine ldg_u (by rfl) (.tmp 4) rfl _ rfl X10 ?_; go_frame)
                | (refine ldg_u (by rfl) (.tmp 24) rfl _ rfl x10 ?_; go_frame)
                | (go_at_call 11; refine Calls.mono HE.out ?_; rintro e w11 ⟨rfl, g11⟩))
              go_meet
              exact ⟨by rw [hbq', Bool.decide_and, Bool.not_and], g11⟩
            · have hb1 : bq = true := hbq.2 (by rw [hFi]; simp)
              obtain rfl : bs = false := by rw [← hbs, hFi]; rfl
              go_wp2_with fail
              go_meet
              exact ⟨by rw [hb1], grf _ _⟩
          case rest =>
            obtain ⟨rfl, g11⟩ := hcut
            obtain ⟨w11, hw⟩ : ∃ w11, w11 = wc := ⟨_, rfl⟩
            subst hw
            have X11 := X10.f0 g11
            have G11 := gtr G10 g11
            have C11 := HC.out.f0 G11
            have hp11 := HP.out.f0 G11
            have c11 : w11.cell? ⟨w.heap.size, 0, none⟩ = some (.string (nmB i)) := by rw [← HN.out]; exact X11.cell rfl
            clear X10 G10 x10 hpd10 hp10 g11 hlv
            cases bq with
            | true =>
              go_upto_region 41 with (first
                | (refine ld_u rfl (.tmp 4) rfl _ rfl X11 ?_; go_frame)
                | (refine put_u _ rfl _ _ _ rfl mb n F i hi h l p (by omega) rfl rfl rfl C11 hp11 HN.out ?_; intro w12 C12 g12))
              have X12 := X11.fr g12 (by simp; omega)
              have c12 : w12.cell? ⟨w.heap.size, 0, none⟩ = some (.string (nmB i)) := by rw [← HN.out]; exact X12.cell rfl
              have G12 : w.grownBy w12 (some mb) := gtr (G11.but _) g12
              have HSn := sortN_u i
              clear X11 G11 C11 hp11 c11 g12
              go_upto_region 42 with (at_builtin; refine apps_u rfl _ _ rfl w12.heap.size (nmB i) rfl rfl (ct rfl rfl) ?_; intro v13 w13 ho13 g13)
              have HS : Hid (Calls Yba.prog 18 #[v13] w13 fun e w' => e = .returned (.tuple #[]) ∧ ∃ g, (w12.alloc (.cells #[.string (nmB i)] 9)).heap.size ≤ g ∧ w13.grownBy w' (some g)) := HSn _ v13 w13 ho13
              go_wp2_with (go_at_call 18; refine Calls.mono HS.out ?_; rintro e w14 ⟨rfl, g, hgb, g14⟩)
              go_ret2
              have g1214 : w12.grownBy w14 none := gnew (gtr (gA w12 _) g13) g14 (fun k e => by cases e; simp at hgb; omega)
              exact ⟨_, rfl, C12.f0 g1214, gtr G12 (g1214.but _)⟩
            | false =>
              have hFi : F i = some (h, l) := by
                by_cases hx : F i = some (h, l)
                · exact hx
                · have := hbq.2 hx; cases this
              have HS : Hid (∀ wz, Calls Yba.prog 18 #[.slice none 0 0] wz fun e w' => e = .returned (.tuple #[]) ∧ w' = wz) := fun wz => sortS_nil none 0 wz
              have HQ : Hid (Cat w11 mb n F ∧ w.grownBy w11 none) := ⟨C11, G11⟩
              clear C11 G11 X11
              go_wp2_with (go_at_call 18; refine Calls.mono (HS.out _) ?_; rintro e w11 ⟨rfl, rfl⟩)
              go_ret2
              exact ⟨_, rfl, by rw [upd_same F i _ hFi]; exact HQ.out.1.mono (by omega), HQ.out.2.but _⟩
    · have g03 : w.grownBy w3 none := gnew G hg3 (fun k e => by cases e; omega)
      have hW3 : Wo w3 (w.heap.size + 1 + 1) u8 m := hW.fr hg3 (by omega)
      have X3 : Bx w3 w.heap.size h p := X.fr hg3 (by simp)
      have hz3 : w.heap.size + 1 + 1 ≤ w3.heap.size := by omega
      have hld : ld.length ≤ 600 := HB.out _ _ hF
      clear hW X G hbs hg3 hF hq hs3
      go_upto_region 5 with (first
        | (refine al_u rfl rfl ?_; intro w4 x4 g4 s4)
        | (refine st_u rfl _ _ rfl _ rfl hd pd rfl x4 hpd.sl ?_; intro w5 x5 g5 s5))
      have g35 : w3.grownBy w5 none := gnew g4 g5 (fun k e => by cases e; exact Nat.le_refl _)
      have hW5 := hW3.f0 g35
      have X5 := X3.f0 g35
      have hq5 := hq3.f0 g35
      have G5 := gtr g03 g35
      have hz5 : w.heap.size + 1 + 1 ≤ w5.heap.size := Nat.le_trans hz3 g35.size
      have c0 : w5.cell? ⟨w.heap.size, 0, none⟩ = some (.string (nmB i)) := by rw [← HN.out]; exact X5.cell rfl
      clear hW3 X3 hq3 g03 g35 g4 g5 hz3
      by_cases hii : i' = i
      · subst hii
        go_wp2_with fail
        go_roundw
        case rel => exact ⟨c2, m, hW5, by omega, hq5, X5, G5, hz5⟩
        case measure => rw [hq5.left_eq, hleft]; exact hlt
      · have hnn' : (!(nmB i').toList == (nmB i).toList) = true := by have := nm_ne hi' hi hii; simp [this]
        have HL : Hid (Calls Yba.prog 22 #[hd.val pd] w5 fun e w' => ∃ v, e = .returned v ∧ Pl w' v (listedOf hd ld) ∧ w5.grownBy w' none ∧ (∀ k, v.ownBlock = some k → pd.ownBlock = some k ∨ ∃ cs, w'.heap[k]? = some (.cells cs 31 (0, 0)))) := listed_u2 hd pd ld w5 (hpd.f0 G5) (by omega)
        have hll := listed_len hd ld
        go_upto_region 7 with (first
          | (refine ld_u rfl (.tmp 10) rfl _ rfl x5 ?_; go_frame)
          | (go_at_call 22; refine Calls.mono HL.out ?_; rintro e w6 ⟨v6, rfl, hp6, g6, hv6⟩; obtain ⟨va, vc, rfl⟩ := hp6.len))
        have hA6 : Ap w6 (w.heap.size + 1 + 1) (.slice va (listedOf hd ld).length vc) := fun k hk => by
          rcases hv6 k hk with h1 | h1
          · exact Or.inl (by have := hpd.lt k h1; omega)
          · exact Or.inr h1
        have hW6 := hW5.f0 g6
        have X6 := X5.f0 g6
        have hq6 := hq5.f0 g6
        have G6 := gtr G5 g6
        have hz6 : w.heap.size + 1 + 1 ≤ w6.heap.size := Nat.le_trans hz5 g6.size
        clear hW5 X5 hq5 G5 hz5 HL x5 hv6 c0 g6 hnm hen
        generalize listedOf hd ld = Ls at *
        generalize hLn : Ls.length = L at *
        go_loopw [40, 8] (fun v40 v8 wr => ∃ (k m' : Nat), v40 = .int .i64 k ∧ k ≤ L ∧ Wo wr (w.heap.size + 1 + 1) v8 m' ∧ m' ≤ m + k ∧ CatQ wr w mb (w.heap.size + 1) n F c2 ∧ Bx wr w.heap.size h p ∧ Pl wr (.slice va L vc) Ls ∧ Ap wr (w.heap.size + 1 + 1) (.slice va L vc) ∧ w.grownBy wr none ∧ w.heap.size + 1 + 1 ≤ wr.heap.size) (fun v40 _ _ => L - (intOf v40).toNat)
        case atStart => exact ⟨0, m, rfl, Nat.zero_le _, hW6, by omega, hq6, X6, hp6, hA6, G6, hz6⟩
        case round =>
          obtain ⟨k, m', rfl, hk, hW, hm', hq, X, hp7, hA, G, hz⟩ := hrel
          by_cases hlt' : k < L
          · obtain ⟨b7, off7, rfl, cx⟩ : ∃ b7 off7, va = some ⟨b7, off7, none⟩ ∧ wr.cell? ⟨b7, off7 + k, none⟩ = some (encU Ls[k]!) := by
              rcases hp7 with ⟨e, e2⟩ | ⟨b7, off7, cap7, e, _, _, hd7⟩
              · exfalso; rw [e2] at hLn; simp at hLn; omega
              · cases e; exact ⟨b7, off7, rfl, hd7 k (by omega)⟩
            have HV : Hid (Wo wr (w.heap.size + 1 + 1) u8 m' ∧ CatQ wr w mb (w.heap.size + 1) n F c2 ∧ Bx wr w.heap.size h p ∧ Pl wr (.slice (some ⟨b7, off7, none⟩) L vc) Ls ∧ Ap wr (w.heap.size + 1 + 1) (.slice (some ⟨b7, off7, none⟩) L vc) ∧ w.grownBy wr none) := ⟨hW, hq, X, hp7, hA, G⟩
            clear hW hq X hp7 hA G hW6 X6 hq6 G6 hp6 hA6
            generalize Ls[k]! = x at *
            go_wp2_with (at_builtin; refine appw_u rfl (.tmp 44) (.tmp 48) rfl (w.heap.size + 1 + 1) u8 m' wr.heap.size (nmB i') x rfl rfl (HV.out.1.f0 (gA _ _)) (ct rfl rfl) (ct rfl rfl) (by omega) (by simp; omega) ?_; intro v9 w9 hW9 g9)
            go_roundw
            case rel =>
              obtain ⟨hW, hq, X, hp7, hA, G⟩ := HV.out
              have hWa := hW.f0 (gA wr (.cells #[.string (nmB i'), .int .u32 x] 83))
              have hAa := hA.f0 hp7.lt (gA wr (.cells #[.string (nmB i'), .int .u32 x] 83))
              have hpa := hp7.f0 (gA wr (.cells #[.string (nmB i'), .int .u32 x] 83))
              have hob := hWa.lt
              exact ⟨k + 1, m' + 1, by go_num, by omega, hW9, by omega, (hq.f0 (gA _ _)).fr g9 (fun e => by have := hob _ e.symm; omega) (fun e => by have := hob _ e.symm; omega), (X.f0 (gA _ _)).fr g9 (fun e => by have := hob _ e.symm; omega), hpa.fb g9 (fun k hk e => hAa.ne hWa k hk e), hAa.step hWa hpa.lt g9, gnew (gtr G (gA _ _)) g9 (fun k e => by have := hob k e; omega), Nat.le_trans hz (Nat.le_trans (gA wr _).size g9.size)⟩
            case measure => simp [intOf]; omega
          · obtain rfl : k = L := by omega
            have hleft2 := hq.left_eq
            clear hW6 X6 hq6 G6 hp6 hA6
            go_wp2_with fail
            go_roundw
            case rel => exact ⟨c2, m', hW, by omega, hq, X, G, hz⟩
            case measure => rw [hleft2, hleft]; exact hlt
end Go.Proofs.Ybulkdbmw

import Derived.Test.YbulkdbksFmtBuild
import Derived.WalkSmall
namespace Go.Proofs.YbulkdbksFmt
open Go.RowKit

theorem InNums.kept {w w' : World} {ao : Option Addr} {len : Nat} {zs : List Nat} (h : InNums w ao len zs) (hg : w.grownBy w' none) : InNums w' ao len zs := by
  refine ⟨h.1, h.2.1, fun hp => ?_⟩
  obtain ⟨b, off, e, hb, hc⟩ := h.2.2 hp
  exact ⟨b, off, e, Nat.lt_of_lt_of_le hb hg.size, fun j hj => hg.cell (hc j hj) (by simp)⟩

theorem nOf_bd (nb : Int) : 1 ≤ nOf nb ∧ nOf nb ≤ 512 := by unfold nOf; omega
theorem built_len (nb tail : Int) (len : Nat) (zs : List Nat) : (builtL nb tail len zs).length = nOf nb := by
  unfold builtL; rw [maskL_len, fill_len]
theorem built_small (nb tail : Int) (len : Nat) (zs : List Nat) (h : Small zs) : Small (builtL nb tail len zs) := by
  unfold builtL; exact (fill_small _ _ _ _ h).mask _ _

theorem orL_len {ws vs : List Nat} {n : Nat} (h1 : ws.length = n) (h2 : vs.length = n) : (orL ws vs).length = n := by simp [orL]; omega
theorem orL_getD {ws vs : List Nat} {n k : Nat} (h1 : ws.length = n) (h2 : vs.length = n) (hk : k < n) : (orL ws vs).getD k 0 = ws.getD k 0 ||| vs.getD k 0 := by
  simp [orL, h1, h2, hk]
theorem orL_self (ws : List Nat) : orL ws ws = ws := by
  unfold orL
  induction ws with
  | nil => rfl
  | cons x r ih => simp
theorem orL_twice (ws vs : List Nat) : orL (orL ws vs) vs = orL ws vs := by
  unfold orL
  induction ws generalizing vs with
  | nil => rfl
  | cons x r ih => cases vs with
    | nil => rfl
    | cons y s => simp [ih, Nat.or_assoc]
theorem orL_small {ws vs : List Nat} (h1 : Small ws) (h2 : Small vs) : Small (orL ws vs) := by
  unfold orL
  induction ws generalizing vs with
  | nil => intro x hx; simp at hx
  | cons a r ih => cases vs with
    | nil => intro x hx; simp at hx
    | cons b s =>
      intro x hx
      simp only [List.zipWith_cons_cons, List.mem_cons] at hx
      rcases hx with rfl | hx
      · exact Nat.or_lt_two_pow (n := 64) (h1 a (by simp)) (h2 b (by simp))
      · exact ih (fun y hy => h1 y (by simp [hy])) (fun y hy => h2 y (by simp [hy])) x hx
theorem or_and_right (x y : Nat) : (x ||| y) &&& y = y := by
  apply Nat.eq_of_testBit_eq; intro i; simp [Nat.testBit_and, Nat.testBit_or]; cases y.testBit i <;> simp
theorem or_and_left (x y : Nat) : (x ||| y) &&& x = x := by
  apply Nat.eq_of_testBit_eq; intro i; simp [Nat.testBit_and, Nat.testBit_or]; cases x.testBit i <;> simp
theorem andOK_right {ws vs : List Nat} {n : Nat} (h1 : ws.length = n) (h2 : vs.length = n) : andOK (orL ws vs) vs n := fun k hk => by rw [orL_getD h1 h2 hk, or_and_right]
theorem andOK_left {ws vs : List Nat} {n : Nat} (h1 : ws.length = n) (h2 : vs.length = n) : andOK (orL ws vs) ws n := fun k hk => by rw [orL_getD h1 h2 hk, or_and_left]

theorem heap_of_owns {w : World} {B n : Nat} {cs : List Value} {base : Nat} (h : w.ownsRow base 29 1 (.slice (some ⟨B, 0, none⟩) n n) n cs) : w.heap[B]? = some (.cells cs.toArray 29 (0, 0)) := by
  rcases h.2 with ⟨h', _⟩ | ⟨g', cap', cur, h', _, hg, _, _, hsz, htake⟩
  · simp at h'
  · simp only [Value.slice.injEq, Option.some.injEq, Addr.mk.injEq, and_true, true_and] at h'
    obtain ⟨rfl, rfl⟩ := h'
    rw [hg]
    have e : cur = cs.toArray := by
      apply Array.toList_inj.1
      rw [← htake, List.take_of_length_le (by simp [hsz])]
    rw [e]

theorem owns_of_heap {w : World} {B n : Nat} {cs : List Value} (hl : cs.length = n) (hn : n ≤ maxLen) (h : w.heap[B]? = some (.cells cs.toArray 29 (0, 0))) :
    w.ownsRow 0 29 1 (.slice (some ⟨B, 0, none⟩) n n) n cs := by
  refine ⟨by omega, Or.inr ⟨B, n, cs.toArray, rfl, Nat.zero_le _, h, Nat.le_refl _, hn, by simp [hl], ?_⟩⟩
  simp [← hl]
theorem splice_all {L cs : List Value} (h : cs.length = L.length) : splice L 0 cs = cs := by
  unfold splice
  rw [List.drop_eq_nil_of_le (by omega)]; simp
theorem nums_one (ws : List Nat) : ∀ v ∈ nums ws, v.oneCell' = true := by
  intro u hu
  obtain ⟨_, _, rfl⟩ := List.mem_map.1 hu
  rfl
theorem Filt.below {w w' : World} {p q n B : Nat} {bits h : Int} {ws : List Nat} (F : Filt w p q n bits h ws) (hb : Below B w w') (h1 : p < B) (h2 : q < B) : Filt w' p q n bits h ws := by
  refine ⟨(hb.block p h1).trans F.st, ?_⟩
  refine ⟨F.row.1, ?_⟩
  rcases F.row.2 with h0 | ⟨g, cap, cur, hv, hg, hh, r⟩
  · exact Or.inl h0
  · have hgq : g = q := by simp only [Value.slice.injEq, Option.some.injEq, Addr.mk.injEq, and_true] at hv; exact hv.1.symm
    subst hgq
    exact Or.inr ⟨g, cap, cur, hv, hg, (hb.block g h2).trans hh, r⟩
theorem grown_below {a b c : World} {B : Nat} (h : a.grownBy b none) (hb : Below B b c) (hB : a.heap.size ≤ B) : a.grownBy c none :=
  ⟨hb.os.trans h.os, hb.tape.trans h.tape, hb.output.trans h.output, Nat.le_trans h.size hb.size, fun i hi hne => (hb.block i (by omega)).trans (h.block i hi hne)⟩

set_option maxHeartbeats 4000000 in
theorem cover_any (nb tail hs : Int) (ao bo : Option Addr) (la ca lb cb : Nat) (zs ys : List Nat) (w : World) (h1 : 0 ≤ nb) (h2 : nb ≤ 65535) (h3 : 0 ≤ tail) (h4 : tail ≤ 255) (h5 : 0 ≤ hs) (h6 : hs ≤ 255) (ha : InNums w ao la zs) (hb : InNums w bo lb ys) :
    Calls Ybaf.prog 4 #[.int .u16 nb, .int .u8 tail, .int .u8 hs, .slice ao la ca, .slice bo lb cb] w fun e w' => e = .returned (.bool true) ∧ w.grownBy w' none := by
  obtain ⟨i0, hi, hz0, hz1, hz2⟩ := info_parts info29
  have hsz29 : (Ybaf.prog.info? 29).map (·.size) = some 1 := by rw [hi]; simp [hz1]
  have HA : Hid _ := ha
  have HBI : Hid _ := hb
  have Hsa : Hid _ := built_small nb tail la zs ha.1
  have Hsb : Hid _ := built_small nb tail lb ys hb.1
  have Hla : Hid _ := built_len nb tail la zs
  have Hlb : Hid _ := built_len nb tail lb ys
  have hN := nOf_bd nb
  clear ha hb
  go_enter Ybaf.func4, Ybaf.ntmps4
  go_wp2_with fail
  refine (build_any nb tail hs ao la ca zs _ h1 h2 h3 h4 h5 h6 HA.out).mono ?_
  rintro e w1 ⟨pf, qf, rfl, Ff, hpf, hqf, hg1⟩
  go_wp2_with fail
  refine (build_any nb tail hs bo lb cb ys _ h1 h2 h3 h4 h5 h6 (InNums.kept HBI.out hg1)).mono ?_
  rintro e w2 ⟨pg, qg, rfl, Fg, hpg, hqg, hg2⟩
  have hp1 := Ff.plt
  have hq1 := Ff.qlt
  replace Ff := Ff.kept hg2 (by simp) (by simp)
  replace hg2 := grown_trans hg1 hg2
  go_wp2_with fail
  refine (build_any nb tail hs ao la ca zs _ h1 h2 h3 h4 h5 h6 (InNums.kept HA.out hg2)).mono ?_
  rintro e w3 ⟨po, qo, rfl, Fo, hpo, hqo, hg3⟩
  have hp2 := Fg.plt
  have hq2 := Fg.qlt
  replace Ff := Ff.kept hg3 (by simp) (by simp)
  replace Fg := Fg.kept hg3 (by simp) (by simp)
  replace hg3 := grown_trans hg2 hg3
  go_wp2_with fail
  refine (build_any nb tail hs ao la ca zs _ h1 h2 h3 h4 h5 h6 (InNums.kept HA.out hg3)).mono ?_
  rintro e w4 ⟨ps, qs, rfl, Fs, hps, hqs, hg4⟩
  have hp3 := Fo.plt
  have hq3 := Fo.qlt
  replace Ff := Ff.kept hg4 (by simp) (by simp)
  replace Fg := Fg.kept hg4 (by simp) (by simp)
  replace Fo := Fo.kept hg4 (by simp) (by simp)
  replace hg4 := grown_trans hg3 hg4
  clear hg1 hg2 hg3
  generalize builtL nb tail la zs = A at *
  generalize builtL nb tail lb ys = B at *
  generalize nOf nb = N at *
  generalize bitsOf nb tail = BT at *
  generalize hOf hs = HT at *
  go_wp2_with fail
  refine (or_any ps qs ps qs N BT HT A A _ Fs Fs Hsa.out Hsa.out (by omega) (fun _ => rfl)).mono ?_
  rintro e w5 ⟨rfl, Fs5, hg5⟩
  rw [orL_self] at Fs5
  replace Ff := Ff.kept hg5 (by simp; omega) (by simp; omega)
  replace Fg := Fg.kept hg5 (by simp; omega) (by simp; omega)
  replace Fo := Fo.kept hg5 (by simp; omega) (by simp; omega)
  replace hg5 := grown_fresh hg4 hg5 (by omega)
  clear hg4 Fs
  have co := Fo.c0
  go_wp2_with fail
  go_loopw [15, 46] (fun _ i wr => ∃ k : Nat, k ≤ N ∧ i = .int .i64 k ∧ ∃ nq, wr = w5.drewN nq) (fun _ i _ => N - (intOf i).toNat)
  case atStart => exact ⟨0, Nat.zero_le _, rfl, 0, rfl⟩
  case round =>
    obtain ⟨k, hk, rfl, nq, rfl⟩ := hrel
    by_cases hlt : k < N
    · have hk1 := Fo.at k hlt
      have hk2 := Fs5.at k hlt
      have cs := Fs5.c0
      generalize A.getD k 0 = x at *
      have hltI : (k : Int) < (N : Int) := by omega
      go_wp2
      go_quiet (fail)
      go_wp2
      go_roundw
      case rel => exact ⟨k + 1, by omega, by go_num, _, rfl⟩
      case measure => simp [intOf]; omega
    · clear Fs5 co
      obtain ⟨w6, hw6⟩ : ∃ w6, w6 = w5.drewN nq := ⟨_, rfl⟩
      rw [← hw6]
      have hg6 : w5.grownBy w6 none := by rw [hw6]; exact ⟨rfl, rfl, rfl, Nat.le_refl _, fun _ _ _ => rfl⟩
      clear hw6
      replace Ff := Ff.kept hg6 (by simp) (by simp)
      replace Fg := Fg.kept hg6 (by simp) (by simp)
      replace Fo := Fo.kept hg6 (by simp) (by simp)
      replace hg6 := grown_trans hg5 hg6
      clear hg5
      go_wp2_with fail
      refine (or_any pf qf pg qg N BT HT A B _ Ff Fg Hsa.out Hsb.out (by omega) (fun h => by omega)).mono ?_
      rintro e w7 ⟨rfl, F7, hg7⟩
      replace Fg := Fg.kept hg7 (by simp; omega) (by simp; omega)
      replace Fo := Fo.kept hg7 (by simp; omega) (by simp; omega)
      replace hg7 := grown_fresh hg6 hg7 hqf
      clear hg6 Ff
      have Hso : Hid _ := orL_small Hsa.out Hsb.out
      have Hr : Hid _ := andOK_right Hla.out Hlb.out
      have Hl : Hid _ := andOK_left Hla.out Hlb.out
      have Ht : Hid _ := orL_twice A B
      have Hlc : Hid _ := orL_len Hla.out Hlb.out
      generalize orL A B = C at *
      go_wp2_with fail
      refine (covers_any pf qf pg qg N BT HT C B _ F7 Fg Hso.out Hsb.out (by omega) Hr.out).mono ?_
      rintro e w8 ⟨rfl, hg8⟩
      replace F7 := F7.kept hg8 (by simp) (by simp)
      replace Fg := Fg.kept hg8 (by simp) (by simp)
      replace Fo := Fo.kept hg8 (by simp) (by simp)
      replace hg8 := grown_trans hg7 hg8
      clear hg7
      go_wp2_with fail
      refine (covers_any pf qf po qo N BT HT C A _ F7 Fo Hso.out Hsa.out (by omega) Hl.out).mono ?_
      rintro e w9 ⟨rfl, hg9⟩
      replace F7 := F7.kept hg9 (by simp) (by simp)
      replace Fg := Fg.kept hg9 (by simp) (by simp)
      replace hg9 := grown_trans hg8 hg9
      clear hg8 Fo
      have hqf9 := F7.qlt
      have hpf9 := F7.plt
      have hpg9 := Fg.plt
      have hqg9 := Fg.qlt
      have c9 := F7.c0
      go_wp2_with (at_make; refine wpList_make_full _ rfl _ _ 23 rfl w9.heap.size 29 i0 (.int .u64 0) 1 Ybaf.underlying23 hi hz0 hz1 _ _ _ _ N rfl rfl (by omega) (by omega) ?b2 ?b3 (Nat.le_refl _) ?_)
      case b2 => rw [hz2]; omega
      case b3 => unfold maxLen; omega
      intro w10 hown10 hg10
      replace F7 := F7.kept hg10 (by simp) (by simp)
      replace Fg := Fg.kept hg10 (by simp) (by simp)
      have hh10 : Hid _ := heap_of_owns hown10
      clear hown10
      have c10 := F7.c0
      clear c9
      go_wp2_with (refine wpList_copy_splice rfl (.tmp 84) (.tmp 88) 23 23 rfl 29 Ybaf.underlying23 hsz29 _ _ _ _ _ _ rfl rfl w9.heap.size 0 _ 29 hh10.out (nums C) ?k1 ?k2 ?k3 ?k4 w9.heap.size w10 (Below.refl _ _) (Nat.le_refl _) ?_)
      case k1 => rw [nums_len, Hlc.out]; simp
      case k2 =>
        intro _ j v hj
        rw [F7.row.cellAt j (by have := (List.getElem?_eq_some_iff.1 hj).1; rw [nums_len, Hlc.out] at this; omega)]; exact hj
      case k3 => rw [nums_len, Hlc.out]; simp [size_madeCells]
      case k4 => exact nums_one C
      intro w11 hh11 hb11
      have hrow11 : w11.ownsRow 0 29 1 (.slice (some ⟨w9.heap.size, 0, none⟩) N N) N (nums C) := by
        have h := hh11.out
        rw [splice_all (by rw [nums_len, Hlc.out]; simp [size_madeCells])] at h
        exact owns_of_heap (by rw [nums_len, Hlc.out]) (by unfold maxLen; omega) h
      replace F7 := F7.below hb11 hpf9 hqf9
      replace Fg := Fg.below hb11 hpg9 hqg9
      have hg11 : w.grownBy w11 none := grown_below (grown_trans hg9 hg10) hb11 hg9.size
      clear hh11 hb11 hh10 hg10 c10
      go_wp2_with fail
      refine (or_any pf qf pg qg N BT HT C B _ F7 Fg Hso.out Hsb.out (by omega) (fun h => by omega)).mono ?_
      rintro e w12 ⟨rfl, F12, hg12⟩
      rw [Ht.out] at F12
      have hrow12 := hrow11.kept hg12 (Or.inr (by simp [Value.ownBlock]; omega))
      replace hg12 := grown_fresh hg11 hg12 hqf
      clear hg11 hrow11 Fg F7
      have c12 := F12.c0
      go_wp2_with fail
      go_loopw [17, 95] (fun _ i wr => ∃ k : Nat, k ≤ N ∧ i = .int .i64 k ∧ ∃ nq, wr = w12.drewN nq) (fun _ i _ => N - (intOf i).toNat)
      case atStart => exact ⟨0, Nat.zero_le _, rfl, 0, rfl⟩
      case round =>
        obtain ⟨k2, hk2, rfl, nq2, rfl⟩ := hrel
        by_cases hlt2 : k2 < N
        · have hr1 := F12.at k2 hlt2
          have hr2 := row_at hrow12 k2 hlt2
          generalize C.getD k2 0 = x at *
          have hltI : (k2 : Int) < (N : Int) := by omega
          go_wp2
          go_quiet (fail)
          go_wp2
          go_roundw
          case rel => exact ⟨k2 + 1, by omega, by go_num, _, rfl⟩
          case measure => simp [intOf]; omega
        · go_wp2
          go_ret
          exact ⟨rfl, grown_trans hg12 ⟨rfl, rfl, rfl, Nat.le_refl _, fun _ _ _ => rfl⟩⟩
end Go.Proofs.YbulkdbksFmt

import Derived.Test.YbulkdbksKeepD
namespace Go.Proofs.Ybulkdbks
open Go Go.RowKit

/-- One cell of the node is written. -/
structure Put (w : World) (nb i : Nat) (v : Value) (w' : World) : Prop where
  at' : w'.cell? ⟨nb, i, none⟩ = some v
  wn : Wr w' nb
  oth : ∀ j, j ≠ i → w'.cell? ⟨nb, j, none⟩ = w.cell? ⟨nb, j, none⟩
  blk : ∀ b, b ≠ nb → w'.heap[b]? = w.heap[b]?
  size : w'.heap.size = w.heap.size
  os : w'.os = w.os
  tape : w'.tape = w.tape
  output : w'.output = w.output

theorem Put.of {w w' : World} {nb i : Nat} {v u : Value} (hu : w.cell? ⟨nb, i, none⟩ = some u) (wn : Wr w nb) (hh : w'.heap = (w.setCell ⟨nb, i, none⟩ v).heap) (ho : w'.os = w.os) (ht : w'.tape = w.tape) (hp : w'.output = w.output) : Put w nb i v w' := by
  have ce : ∀ a, w'.cell? a = (w.setCell ⟨nb, i, none⟩ v).cell? a := fun a => by unfold World.cell?; rw [hh]
  refine ⟨(ce _).trans (cs_eq rfl hu), ?_, fun j hj => (ce _).trans (cs_ne rfl (fun h => hj h.2.symm)), fun b hb => ?_, ?_, ho, ht, hp⟩
  · obtain ⟨c, T, h⟩ := wn.set nb i v
    exact ⟨c, T, by rw [hh]; exact h⟩
  · rw [hh]; exact heap_set_ne (Ne.symm hb)
  · rw [hh]; simp [World.setCell]

/-- The matches are copied, and the answer's two cells written. -/
structure Ans (w : World) (κ : Nat → Nat) (nb : Nat) (e : Ent) (m : Nat) (H : Int) (w' : World) : Prop where
  ch : w'.cell? ⟨nb, 115, none⟩ = some (.int .i64 H)
  wn : Wr w' nb
  oth : ∀ j, j ≠ 115 → w'.cell? ⟨nb, j, none⟩ = w.cell? ⟨nb, j, none⟩
  ans : w'.heap[e.ab]? = some (.cells #[.string e.key, .slice (some ⟨w.heap.size, 0, none⟩) m m, .bool true, .int .i64 e.since] 105 (0, 0))
  blk : ∀ b, b < w.heap.size → b ≠ nb → b ≠ e.ab → w'.heap[b]? = w.heap[b]?
  size : w.heap.size ≤ w'.heap.size
  ms : MOk w' (fun b => if b < w.heap.size then κ b else 1) (.slice (some ⟨w.heap.size, 0, none⟩) m m) m (fun _ => 0)
  os : w'.os = w.os
  tape : w'.tape = w.tape
  output : w'.output = w.output

theorem Ans.of {w w1 w2 w' : World} {κ : Nat → Nat} {nb m : Nat} {e : Ent} {H : Int} {mv : Value} (hp : Put w nb 115 (.int .i64 H) w1) (hc : CRow w1 w2 w1.heap.size m m) (ha : w.heap[e.ab]? = some (.cells #[.string e.key, mv, .bool e.come, .int .i64 e.since] 105 (0, 0))) (hn : nb ≠ e.ab) (ln : nb < w.heap.size) (ka : κ e.ab = 3)
    (hw : w' = (w2.setCell ⟨e.ab, 1, none⟩ (.slice (some ⟨w.heap.size, 0, none⟩) m m)).setCell ⟨e.ab, 2, none⟩ (.bool true)) : Ans w κ nb e m H w' := by
  have g := hc.gr
  have la : e.ab < w.heap.size := (Array.getElem?_eq_some_iff.1 ha).1
  have ha2 : w2.heap[e.ab]? = some (.cells #[.string e.key, mv, .bool e.come, .int .i64 e.since] 105 (0, 0)) := by rw [g.block _ (by rw [hp.size]; exact la) (by simp), hp.blk _ (Ne.symm hn)]; exact ha
  have hb : ∀ b, b ≠ e.ab → w'.heap[b]? = w2.heap[b]? := fun b hb => by rw [hw, heap_set_ne (Ne.symm hb), heap_set_ne (Ne.symm hb)]
  have hcn : ∀ j, w'.cell? ⟨nb, j, none⟩ = w1.cell? ⟨nb, j, none⟩ := fun j => by
    rw [World.cell?_of_block (hb nb hn)]
    exact World.cell?_of_block (g.block nb (by rw [hp.size]; exact ln) (by simp))
  have hsz : w'.heap.size = w2.heap.size := by rw [hw]; simp [World.setCell]
  refine ⟨(hcn _).trans hp.at', ?_, fun j hj => (hcn j).trans (hp.oth j hj), ?_, fun b h1 h2 h3 => ?_, ?_, ?_, ?_, ?_, ?_⟩
  · obtain ⟨c, T, h⟩ := hp.wn
    exact ⟨c, T, by rw [hb nb hn, g.block nb (by rw [hp.size]; exact ln) (by simp)]; exact h⟩
  · rw [hw]; exact heap_set (heap_set ha2 _) _
  · rw [hb b h3, g.block b (by rw [hp.size]; exact h1) (by simp), hp.blk b h2]
  · rw [hsz, ← hp.size]; exact g.size
  · have := hc.ok (κ := fun b => if b < w.heap.size then κ b else 1) (fun b hb => by show (if _ then _ else _) = _; rw [if_neg (by have := hp.size; omega)])
    rw [hp.size] at this
    exact this.frame (Nat.le_of_eq hsz.symm) (fun _ _ _ => rfl) (fun b hb' k1 => hb b (fun h => by
      rw [h, if_pos la, ka] at k1; cases k1))
  · rw [hw]; exact g.os.trans hp.os
  · rw [hw]; exact g.tape.trans hp.tape
  · rw [hw]; exact g.output.trans hp.output

/-- What the answer's coming makes of the node, ahead of the move to the front. -/
theorem Ans.inv {w wz wy : World} {κ : Nat → Nat} {nb mb m : Nat} {N K F H H' : Int} {l1 l2 : List Ent} {e : Ent} (I : Inv w κ nb mb N K F (l1 ++ e :: l2)) (A : Ans w κ nb e m H wz) (P : Put wz nb 115 (.int .i64 H') wy) (hm : m ≤ 6)
    (hH : H' = (heldOf (l1 ++ e.got m (.slice (some ⟨w.heap.size, 0, none⟩) m m) :: l2) : Nat)) :
    Inv wy (fun b => if b < w.heap.size then κ b else 1) nb mb N K F (l1 ++ e.got m (.slice (some ⟨w.heap.size, 0, none⟩) m m) :: l2) ∧ Fr κ w wy := by
  have E := I.ents e (by simp)
  have an : e.ab ≠ nb := fun h => by have := E.ka; rw [h, I.kn] at this; cases this
  refine inv_ans I (by rw [P.size]; exact A.size) P.wn (by rw [← hH]; exact P.at') (fun i hi => (P.oth i hi).trans (A.oth i hi)) ((P.blk _ an).trans A.ans) (fun b h1 h2 h3 => (P.blk b h2).trans (A.blk b h1 h2 h3)) (fun b hb => if_pos hb) ?_ hm (P.os.trans A.os) (P.tape.trans A.tape) (P.output.trans A.output)
  exact A.ms.frame (Nat.le_of_eq P.size.symm) (fun _ _ _ => rfl) (fun b _ k1 => P.blk b (fun h => by
    rw [h, if_pos I.wn.lt, I.kn] at k1; cases k1))

set_option maxHeartbeats 4000000 in
set_option maxRecDepth 100000 in
theorem keep_ok {w : World} {κ : Nat → Nat} {nb mb N c kb m cap : Nat} {K F now : Int} {l1 l2 : List Ent} {e : Ent} {xs : List ByteArray} {ao : Option Addr} (I : Inv w κ nb mb (N : Int) K F (l1 ++ e :: l2)) (hl : (l1 ++ e :: l2).length ≤ 900) (hheld : heldOf (l1 ++ e :: l2) ≤ 90000) (hN : N ≤ 100)
    (hkw : KwAt w kb xs) (hx : xs.length ≤ 10) (hc : xs.length ≤ c) (hyes : 0 < (N : Int) ∧ (xs.length : Int) ≤ K) (hke : e.key = joinB xs) (hexp : ¬ F ≤ now - e.since) (hbig : m ≤ N) (hm6 : m ≤ 6) (h0 : 0 ≤ now) (h1 : now < 64)
    (hsrc : ∀ w', Fr κ w w' → SrcOk w' (.slice ao m cap) m) :
    Calls Yba.prog 21 #[ptr nb 0, qz (.slice (some ⟨kb, 0, none⟩) xs.length c), .slice ao m cap, .int .i64 now] w fun r w' => r = .returned (.tuple #[]) ∧ ∃ κ' mv, (∀ b, b < w.heap.size → κ' b = κ b) ∧
      Inv w' κ' nb mb (N : Int) K F ((e.got m mv :: (l1 ++ l2)).take (fitK N (fun k => heldOf ((e.got m mv :: (l1 ++ l2)).take k)) ((l1 ++ l2).length + 1))) ∧ Fr κ w w' := by
  have hk : (joinB xs).size ≤ 100 := by rw [← hke]; exact (I.ents e (by simp)).kz
  have HK : Hid (∀ w1 : World, w.grownBy w1 none → Calls Yba.prog 28 #[ptr nb 112, qz (.slice (some ⟨kb, 0, none⟩) xs.length c)] w1 fun e w' => e = .returned (.bool true) ∧ w1.grownBy w' none) := fun w1 g => keeps_yes I hx hyes w1 g
  have HQ : Hid (∀ w1 : World, w.grownBy w1 none → Calls Yba.prog 29 #[.slice (some ⟨kb, 0, none⟩) xs.length c] w1 fun e w' => e = .returned (.string (joinB xs)) ∧ w1.grownBy w' none) := fun w1 g => query_grown hkw hx hc hk w1 g
  have HI : Hid (∀ w2 : World, w.grownBy w2 none → Inv w2 κ nb mb (N : Int) K F (l1 ++ e :: l2)) := fun w2 g => I.grow g.size (fun _ _ _ => rfl) (fun b hb _ => g.block b hb (by simp))
  have HL : Hid (∀ w2 : World, w.grownBy w2 none → (Instr.lookup 67 (.map (some mb)) (.string (joinB xs)) false).run Yba.prog w2 = .ok (ptr e.eb 0) w2 ∧ w2.cell? ⟨nb, 116, none⟩ = some (.map (some mb))) := fun w2 g => ⟨by rw [← hke]; exact look_hit (HI.out w2 g) (by simp), (HI.out w2 g).cm⟩
  have HE : Hid (∀ w2 : World, Inv w2 κ nb mb (N : Int) K F (l1 ++ e :: l2) → Calls Yba.prog 30 #[ptr nb 112, ptr e.eb 0, .int .i64 now] w2 fun r w' => r = .returned (.bool false) ∧ ∃ d, w' = dr w2 d) := fun w2 I2 => by
    refine (exp_inv I2 (by simp) h0 h1).mono ?_
    rintro r w' ⟨rfl, h⟩
    exact ⟨by simp; omega, h⟩
  have hd : decide ((N : Int) < (m : Int)) = false := by simp; omega
  have ta := ta102
  have Hsrc : Hid _ := hsrc
  have hsz : msz e.m ≤ 6 := by have := (I.ents e (by simp)).mz; unfold msz; split <;> omega
  have hszm : msz m ≤ 6 := by unfold msz; split <;> omega
  have hmid := heldOf_mid l1 l2 e
  have Hmid : Hid (∀ mv, heldOf (l1 ++ e.got m mv :: l2) = heldOf (l1 ++ l2) + msz m) := fun mv => by
    have := heldOf_mid l1 l2 (e.got m mv)
    simpa [Ent.got] using this
  have Hfr : Hid (∀ mv, heldOf (e.got m mv :: (l1 ++ l2)) = heldOf (l1 ++ e.got m mv :: l2)) := fun mv => heldOf_front l1 l2 (e.got m mv)
  clear I hkw hk hyes hke hexp hsrc
  generalize joinB xs = key at *
  generalize xs.length = n at *
  go_enter Yba.func21, Yba.ntmps21
  go_upto_region 3 with (first
    | (refine wpList_load_row rfl 84 (.tmp 5) rfl w.heap.size rfl 84 _ (0, 0) _ heap_new Yba.underlying84 rfl (info84 _ rfl) ?_)
    | (go_at_call 28; refine Calls.mono (HK.out _ (World.grownBy_alloc w _ none)) ?_; rintro e w1 ⟨rfl, hg⟩; have hg1 : w.grownBy w1 none := grown_trans (World.grownBy_alloc w _ none) hg; have ck : w1.cell? ⟨w.heap.size, 0, none⟩ = some (.slice (some ⟨kb, 0, none⟩) n c) := cell_grown (cell_new rfl) hg; have HG1 : Hid _ := hg1; clear hg hg1))
  go_cut [9] (fun e' wx => e' = ptr e.eb 0 ∧ w.grownBy wx none)
  case first =>
    have hcm1 := (HL.out w1 HG1.out).2
    have HQ1 : Hid (∀ n', Calls Yba.prog 29 #[.slice (some ⟨kb, 0, none⟩) n c] (w1.drewN n') fun e w' => e = .returned (.string key) ∧ w.grownBy w' none) := fun n' => (HQ.out _ (gdN HG1.out n')).mono (fun e w' h => ⟨h.1, grown_trans (gdN HG1.out n') h.2⟩)
    go_region_with ((go_at_call 29; refine Calls.mono (HQ1.out _) ?_; rintro e w2 ⟨rfl, hg⟩; have HG2 : Hid (w.grownBy w2 none) := hg; obtain ⟨hlk, hcm⟩ := HL.out w2 HG2.out; clear hg))
    all_goals
      go_wp2_with fail
      go_meet
      exact ⟨rfl, HG2.out⟩
  case rest =>
    obtain ⟨rfl, hg⟩ := hcut
    have HG : Hid _ := hg
    have HI2 : Hid _ := HI.out wc hg
    clear hg HL HQ HK HI
    go_upto_region 8 with (first
      | (go_at_call 30; refine Calls.mono (HE.out _ HI2.out) ?_; rintro r w3 ⟨rfl, d, hw3⟩; have HI3 : Hid (Inv w3 κ nb mb (N : Int) K F (l1 ++ e :: l2)) := (by show Inv _ _ _ _ _ _ _ _; rw [hw3]; exact HI2.out.dr d); have HF3 : Hid (Fr κ w w3) := (by show Fr _ _ _; rw [hw3]; exact (Fr.of_grown HG.out).dr d); have cN3 := HI3.out.cN; have c3 := (HI3.out.ents e (by simp)).c3; clear hw3))
    have E3 := HI3.out.ents e (by simp)
    have ch3 := HI3.out.ch
    have fz3 := HI3.out.wn.fz 115
    have Hwn3 : Hid _ := HI3.out.wn
    have hna : nb ≠ e.ab := fun h => by have := E3.ka; rw [← h, HI3.out.kn] at this; cases this
    have ln3 := HI3.out.wn.lt
    have Hka : Hid _ := E3.ka
    obtain ⟨aoE, capE, hmv⟩ := mv_len E3.ms
    have hans := E3.ans
    rw [hmv] at hans
    have Hans : Hid _ := hans
    have mz := E3.mz
    have HS : Hid (∀ wz : World, wz.heap = w3.heap → Calls Yba.prog 37 #[ptr e.ab 0] wz fun r w' => r = .returned (.int .i64 (msz e.m : Nat)) ∧ w' = wz) := fun wz hz => size_any e.ab _ aoE e.m capE _ _ wz (by rw [hz]; exact Hans.out) mz
    clear E3 hmv hans
    have hwr : IntKind.i64.wrap ((heldOf (l1 ++ e :: l2) : Int) - (msz e.m : Int)) = (heldOf (l1 ++ l2) : Int) := by
      rw [wrap64 (by omega) (by omega)]; omega
    have hwr0 : IntKind.i64.wrap (heldOf (l1 ++ l2) : Int) = (heldOf (l1 ++ l2) : Int) := wrap64 (by omega) (by omega)
    have hwr1 : IntKind.i64.wrap ((heldOf (l1 ++ l2) : Int) + (msz m : Int)) = (heldOf (l1 ++ l2) : Int) + (msz m : Int) := wrap64 (by omega) (by omega)
    have Hlen : Hid _ := hl
    have Hhd : Hid _ := hheld
    have Hch : Hid _ := ch3
    generalize heldOf (l1 ++ e :: l2) = H at *
    generalize hH0 : heldOf (l1 ++ l2) = H0 at *
    have HH0 : Hid _ := hH0
    clear hH0
    go_cut [] (fun wx => Put w3 nb 115 (.int .i64 (H0 : Int)) wx)
    case first =>
      go_region_with ((go_at_call 37; refine Calls.mono (HS.out _ rfl) ?_; rintro r w' ⟨rfl, rfl⟩))
      all_goals
        go_wp2_with fail
        go_meet
        exact Put.of Hch.out Hwn3.out rfl rfl rfl rfl
    case rest =>
      have hP := hcut
      have hfr : Fr κ w wc := HF3.out.trans ⟨hP.os, hP.tape, hP.output, Nat.le_of_eq hP.size.symm, fun b _ k1 => hP.blk b (fun h => by rw [h, HI3.out.kn] at k1; omega)⟩ (fun _ _ => rfl)
      have HC : Hid (Calls Yba.prog 34 #[.slice ao m cap] wc fun r w' => r = .returned (.slice (some ⟨w3.heap.size, 0, none⟩) m m) ∧ CRow wc w' wc.heap.size m m) := (copy_any _ m hm6 wc (Hsrc.out wc hfr)).mono (fun r w' h => ⟨by rw [h.1, hP.size], h.2⟩)
      have hab : wc.heap[e.ab]? = some (.cells #[.string e.key, .slice aoE e.m capE, .bool e.come, .int .i64 e.since] 105 (0, 0)) := (hP.blk _ (Ne.symm hna)).trans Hans.out
      have Hab : Hid (∀ w5 : World, CRow wc w5 wc.heap.size m m → w5.cell? ⟨e.ab, 1, none⟩ = some (.slice aoE e.m capE) ∧ w5.cell? ⟨e.ab, 2, none⟩ = some (.bool e.come) ∧ w5.frozen? ⟨e.ab, 1, none⟩ = false ∧ w5.frozen? ⟨e.ab, 2, none⟩ = false) := fun w5 hr => by
        have h5 := (hr.gr.block e.ab (Array.getElem?_eq_some_iff.1 hab).1 (by simp)).trans hab
        refine ⟨by unfold World.cell?; simp [h5], by unfold World.cell?; simp [h5], Wr.fz ⟨_, _, h5⟩ 1, Wr.fz ⟨_, _, h5⟩ 2⟩
      have HP : Hid _ := hP
      clear hcut hP hfr hab
      go_upto_region 9 with fail
      go_cut [] (fun wx => Ans w3 κ nb e m (H0 : Int) wx)
      case first =>
        go_wp2_with (go_at_call 34; refine Calls.mono HC.out ?_; rintro r w5 ⟨rfl, hr⟩; obtain ⟨f1, f2, f3, f4⟩ := Hab.out w5 hr; have HR : Hid _ := hr; clear hr)
        go_meet
        exact Ans.of HP.out HR.out Hans.out hna ln3 Hka.out rfl
      case rest =>
        have hA := hcut
        have ch4 := hA.ch
        have fz4 := hA.wn.fz 115
        have Hch4 : Hid _ := hA.ch
        have Hwn4 : Hid _ := hA.wn
        have Hans4 : Hid _ := hA.ans
        have HS4 : Hid (∀ wz : World, wz.heap = wc.heap → Calls Yba.prog 37 #[ptr e.ab 0] wz fun r w' => r = .returned (.int .i64 (msz m : Nat)) ∧ w' = wz) := fun wz hz => size_any e.ab _ _ m _ _ _ wz (by rw [hz]; exact Hans4.out) hm6
        have HM : Hid (∀ wy : World, Put wc nb 115 (.int .i64 ((H0 : Int) + (msz m : Int))) wy → Calls Yba.prog 33 #[ptr nb 117, ptr e.eb 0] wy fun r w' => r = .returned (.tuple #[]) ∧ Inv w' (fun b => if b < w3.heap.size then κ b else 1) nb mb (N : Int) K F (e.got m (.slice (some ⟨w3.heap.size, 0, none⟩) m m) :: (l1 ++ l2)) ∧ Fr κ w w') := fun wy P => by
          obtain ⟨I5, f5⟩ := Ans.inv HI3.out hA P hm6 (by rw [Hmid.out]; omega)
          refine (front_inv I5).mono ?_
          rintro r w' ⟨rfl, I6, f6⟩
          exact ⟨rfl, I6, HF3.out.trans (f5.trans f6 (fun b hb => if_pos hb)) (fun _ _ => rfl)⟩
        have hlen2 : (l1 ++ l2).length + 1 ≤ 901 := by have := Hlen.out; simp at this ⊢; omega
        have HT : Hid (∀ wy : World, Inv wy (fun b => if b < w3.heap.size then κ b else 1) nb mb (N : Int) K F (e.got m (.slice (some ⟨w3.heap.size, 0, none⟩) m m) :: (l1 ++ l2)) → Calls Yba.prog 38 #[ptr nb 112] wy fun r w' => r = .returned (.tuple #[]) ∧ Inv w' (fun b => if b < w3.heap.size then κ b else 1) nb mb (N : Int) K F ((e.got m (.slice (some ⟨w3.heap.size, 0, none⟩) m m) :: (l1 ++ l2)).take (fitK N (fun k => heldOf ((e.got m (.slice (some ⟨w3.heap.size, 0, none⟩) m m) :: (l1 ++ l2)).take k)) ((l1 ++ l2).length + 1))) ∧ Fr (fun b => if b < w3.heap.size then κ b else 1) wy w') := fun wy I7 => fit_any I7 (by rw [List.length_cons]; omega) (by rw [Hfr.out, Hmid.out]; have := Hhd.out; omega) hN
        clear hcut hA
        go_wp2_with fail
        go_region_with ((go_at_call 37; refine Calls.mono (HS4.out _ rfl) ?_; rintro r w' ⟨rfl, rfl⟩))
        all_goals
          go_wp2_with (first
            | (go_at_call 33; refine Calls.mono (HM.out _ (Put.of Hch4.out Hwn4.out rfl rfl rfl rfl)) ?_; rintro r w6 ⟨rfl, I6, fr6⟩; have HI6 : Hid _ := I6; have HF6 : Hid _ := fr6; clear I6 fr6)
            | (go_at_call 38; refine Calls.mono (HT.out _ HI6.out) ?_; rintro r w7 ⟨rfl, I7, fr7⟩; have HI7 : Hid _ := I7; have HF7 : Hid _ := fr7; clear I7 fr7))
          go_end0
          exact ⟨rfl, _, _, fun b hb => if_pos (Nat.lt_of_lt_of_le hb HF3.out.size), HI7.out, HF6.out.trans HF7.out (fun b hb => if_pos (Nat.lt_of_lt_of_le hb HF3.out.size))⟩
end Go.Proofs.Ybulkdbks

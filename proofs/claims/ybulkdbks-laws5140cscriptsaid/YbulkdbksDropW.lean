import Derived.Test.YbulkdbksDrop
namespace Go.Proofs.Ybulkdbks
open Go Go.RowKit

theorem wrap64 {x : Int} (h0 : -1000000000 ≤ x) (h1 : x ≤ 1000000000) : IntKind.i64.wrap x = x := by
  simp [IntKind.wrap, IntKind.signed, IntKind.bits]; omega

theorem keptHeap {w w' : World} {b : Nat} {o : Obj} (h : w'.heap[b]? = w.heap[b]?) (k : w.heap[b]? = some o) : w'.heap[b]? = some o := h.trans k

theorem rem_facts {w w1 : World} {κ : Nat → Nat} {nb mb p s d : Nat} {N K F n : Int} {L : List Ent} {e : Ent} {D : DataW Unit} (I : Inv w κ nb mb N K F L) (E : EntOk w κ nb e) (hD : w.ownsMap Yba.prog 9 pElem mb (Maps.size D) D)
    (kp : κ p = 4 ∨ κ p = 2) (ks : κ s = 4 ∨ κ s = 2) (ne : e.eb ≠ nb) (h : w1 = dr (remW w nb 117 e.eb p (off nb p) s (off nb s) n) d) :
    w1.cell? ⟨nb, 115, none⟩ = some (.int .i64 (heldOf L)) ∧ w1.cell? ⟨nb, 116, none⟩ = some (.map (some mb)) ∧ w1.heap[e.ab]? = some (.cells #[.string e.key, e.mv, .bool e.come, .int .i64 e.since] 105 (0, 0)) ∧ Wr w1 nb ∧ w1.ownsMap Yba.prog 9 pElem mb (Maps.size D) D := by
  subst h
  have kn := I.kn
  have km := I.km
  have ke := E.ke
  have ka := E.ka
  have nbc : ∀ i, i ≠ 117 → i ≠ 118 → i ≠ 121 → (remW w nb 117 e.eb p (off nb p) s (off nb s) n).cell? ⟨nb, i, none⟩ = w.cell? ⟨nb, i, none⟩ := fun i b c f => by
    refine remW_cell ?_ ?_ ?_ ?_
    · rintro ⟨rfl, h⟩; rw [off_root] at h; exact b h.symm
    · rintro ⟨rfl, h⟩; rw [off_root] at h; exact c h.symm
    · rintro ⟨h, _⟩; exact ne h
    · rintro ⟨_, h⟩; exact f h.symm
  have oth : ∀ b, κ b ≠ 2 → κ b ≠ 4 → (remW w nb 117 e.eb p (off nb p) s (off nb s) n).heap[b]? = w.heap[b]? := fun b k2 k4 =>
    remW_heap (fun h => by subst h; rcases kp with h | h; exact k4 h; exact k2 h) (fun h => by subst h; rcases ks with h | h; exact k4 h; exact k2 h) (fun h => by subst h; exact k2 ke) (fun h => by subst h; exact k4 kn)
  have h3 := (nbc 115 (by decide) (by decide) (by decide)).trans I.ch
  have h4 := (nbc 116 (by decide) (by decide) (by decide)).trans I.cm
  have h5 := (oth _ (by rw [ka]; decide) (by rw [ka]; decide)).trans E.ans
  have h6 := oth mb (by rw [km]; decide) (by rw [km]; decide)
  have h7 := remW_wr (lb := nb) (lo := 117) (eb := e.eb) (pb := p) (po := off nb p) (sb := s) (so := off nb s) (n := n) I.wn
  clear nbc oth
  generalize remW w nb 117 e.eb p (off nb p) s (off nb s) n = wr at *
  refine ⟨h3, h4, h5, h7, ?_⟩
  obtain ⟨es, clock, hb, r⟩ := hD
  exact ⟨es, clock, h6.trans hb, r⟩

set_option maxHeartbeats 2000000 in
set_option maxRecDepth 100000 in
theorem drop_any {w : World} {κ : Nat → Nat} {nb mb : Nat} {N K F : Int} {l1 l2 : List Ent} {e : Ent} (I : Inv w κ nb mb N K F (l1 ++ e :: l2)) (hl : (l1 ++ e :: l2).length ≤ 1000) (hheld : heldOf (l1 ++ e :: l2) ≤ 100000) :
    Calls Yba.prog 31 #[ptr nb 112, ptr e.eb 0] w fun r w' => r = .returned (.tuple #[]) ∧ Inv w' κ nb mb N K F (l1 ++ l2) ∧ Fr κ w w' := by
  obtain ⟨A, p, s, B, hA, hB, hC, hp, hs, hpe, hse⟩ := I.around
  obtain ⟨k1, k2, k3, k4⟩ := ring_at hC
  have E := I.ents e (by simp)
  have ne : e.eb ≠ nb := fun h => nb_not_el I (by rw [← h]; simp)
  have oe := off_el ne
  simp only [nextIs, prevIs, oe, Nat.zero_add] at k1 k2 k3 k4
  have elp : ∀ b, (b = nb ∨ b ∈ (l1 ++ l2).map Ent.eb) → b = nb ∨ b ∈ (l1 ++ e :: l2).map Ent.eb := fun b hb => hb.imp id (fun h => by
    obtain ⟨x, hx, rfl⟩ := List.mem_map.1 h
    exact List.mem_map.2 ⟨x, by simp at hx ⊢; rcases hx with h | h <;> simp [h], rfl⟩)
  obtain ⟨wp, kp⟩ := el_wr I (elp p hp)
  obtain ⟨ws, ks⟩ := el_wr I (elp s hs)
  obtain ⟨D, hD, hM⟩ := I.map
  have HR : Hid _ := remove_list nb 117 e.eb p (off nb p) s (off nb s) ((l1 ++ e :: l2).length : Nat) _ _ _ w k3 k2 E.c2 E.c3 k1 k4 I.cl (by simp; omega) (by omega) E.we.fz wp.fz ws.fz I.wn.fz hpe hse ne.symm (fun h => by rw [h]) (fun h => by rw [h, off_root]) (fun h => by rw [h, off_root])
  have HI : Hid (∀ (w1 w2 w' : World) (n d : Nat), w1 = dr (remW w nb 117 e.eb p (off nb p) s (off nb s) ((l1 ++ e :: l2).length : Nat)) d → w1.grownBy w2 (some mb) → w2.ownsMap Yba.prog 9 pElem mb n (D.del (.string e.kl)) →
      w'.heap = (w2.setCell ⟨nb, 115, none⟩ (.int .i64 (heldOf (l1 ++ l2)))).heap → w'.os = w2.os → w'.tape = w2.tape → w'.output = w2.output → Inv w' κ nb mb N K F (l1 ++ l2) ∧ Fr κ w w') :=
    fun w1 w2 w' n d a1 a2 a3 a4 a5 a6 a7 => inv_drop I hA hB hC hp hs hpe hse a1 a2 hD hM a3 a4 a5 a6 a7
  have ka := E.ka
  have kn := I.kn
  have km := I.km
  have ke := E.ke
  have mn : mb ≠ nb := fun h => by rw [h, kn] at km; cases km
  have an : e.ab ≠ nb := fun h => by rw [h, kn] at ka; cases ka
  have am : e.ab ≠ mb := fun h => by rw [h, km] at ka; cases ka
  have H1 : Hid (∀ (w1 : World) (d : Nat), w1 = dr (remW w nb 117 e.eb p (off nb p) s (off nb s) ((l1 ++ e :: l2).length : Nat)) d →
      w1.cell? ⟨nb, 115, none⟩ = some (.int .i64 (heldOf (l1 ++ e :: l2))) ∧ w1.cell? ⟨nb, 116, none⟩ = some (.map (some mb)) ∧ w1.heap[e.ab]? = some (.cells #[.string e.key, e.mv, .bool e.come, .int .i64 e.since] 105 (0, 0)) ∧ Wr w1 nb ∧ w1.ownsMap Yba.prog 9 pElem mb (Maps.size D) D) :=
    fun w1 d h => rem_facts I E hD kp ks ne h
  have Hheld : Hid _ := heldOf_mid l1 l2 e
  obtain ⟨ao, cap, hmv⟩ := mv_len E.ms
  have hkz := keyS E.kz
  have hmz := E.mz
  have ta := ta102
  clear hA hB hC hp hs k1 k2 k3 k4 elp wp kp ws ks hD hM I E
  generalize remW w nb 117 e.eb p (off nb p) s (off nb s) ((l1 ++ e :: l2).length : Nat) = wr at *
  go_enter Yba.func31, Yba.ntmps31
  go_wp2_with fail
  refine Calls.mono HR.out ?_
  rintro r w1 ⟨rfl, d, hw1⟩
  obtain ⟨c115, c116, ha, wn, hD1⟩ := H1.out w1 d hw1
  have HW1 : Hid _ := hw1
  clear hw1
  have ca0 : w1.cell? ⟨e.ab, 0, none⟩ = some (.string e.key) := by unfold World.cell?; simp [ha]
  obtain ⟨w2, hrun, hD2, hturn⟩ := World.ownsMap.drop (w := w1.drew) hD1 law9 Yba.underlying67 hkz 0
  go_wp2_with fail
  go_region
  have hg := hturn.grown
  have lnb := wn.lt
  have lab : e.ab < w1.heap.size := (Array.getElem?_eq_some_iff.1 ha).1
  have hb2 : w2.heap[nb]? = w1.heap[nb]? := hg.block nb lnb (by simp [Ne.symm mn])
  have d115 : w2.cell? ⟨nb, 115, none⟩ = some (.int .i64 (heldOf (l1 ++ e :: l2))) := (World.cell?_of_block hb2).trans c115
  have dfz : w2.frozen? ⟨nb, 115, none⟩ = false := (World.frozen?_of_block hb2).trans (wn.fz _)
  have da : w2.heap[e.ab]? = some (.cells #[.string e.key, .slice ao e.m cap, .bool e.come, .int .i64 e.since] 105 (0, 0)) := by
    rw [← hmv]; exact (hg.block e.ab lab (by simp [am])).trans ha
  have HG : Hid _ := hg
  have HD2 : Hid _ := hD2
  have HS : Hid (∀ wz : World, wz.heap = w2.heap → Calls Yba.prog 37 #[ptr e.ab 0] wz fun r w' => r = .returned (.int .i64 (msz e.m : Nat)) ∧ w' = wz) := fun wz hz => size_any e.ab _ ao e.m cap _ _ wz (by rw [hz]; exact da) hmz
  clear hturn hg hb2 hrun hD2 hD1 c115 c116 ha ca0 hmv wn
  have hms : msz e.m ≤ 6 := by unfold msz; split <;> omega
  have hmd := Hheld.out
  generalize heldOf (l1 ++ e :: l2) = H at *
  generalize heldOf (l1 ++ l2) = H' at *
  generalize msz e.m = M at *
  have hH : H ≤ 100000 := hheld
  have hwr : IntKind.i64.wrap (H' : Int) = (H' : Int) := wrap64 (by omega) (by omega)
  go_wp2_with fail
  go_region_with (go_at_call 37; refine Calls.mono (HS.out _ rfl) ?_; rintro r w' ⟨rfl, rfl⟩)
  all_goals
    go_end0
    exact ⟨rfl, HI.out w1 w2 _ _ d HW1.out ⟨HG.out.os, HG.out.tape, HG.out.output, HG.out.size, HG.out.block⟩ HD2.out rfl rfl rfl rfl⟩
end Go.Proofs.Ybulkdbks

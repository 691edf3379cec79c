import Derived.Test.YbulkdbksAdd
import Derived.Deep.DeepCutAuto
namespace Go.Proofs.Ybulkdbks
open Go Go.RowKit

theorem inv_init {w : World} {κ : Nat → Nat} {nb mb : Nat} {N K F : Int} (I : Inv w κ nb mb N K F []) (l0 : w.cell? ⟨nb, 117, none⟩ = some (.pointer none)) (l1 : w.cell? ⟨nb, 118, none⟩ = some (.pointer none)) :
    Inv (initW w nb 117) κ nb mb N K F [] ∧ Chain (initW w nb 117) nb [nb, nb] ∧ Fr κ w (initW w nb 117) ∧ (initW w nb 117).heap.size = w.heap.size ∧ ∀ b, nb ≠ b → (initW w nb 117).heap[b]? = w.heap[b]? := by
  obtain ⟨c0, c1, c4⟩ := initW_cells l0 l1 I.cl
  have oth : ∀ b, nb ≠ b → (initW w nb 117).heap[b]? = w.heap[b]? := fun b hb => by
    unfold initW; rw [heap_set_ne hb, heap_set_ne hb, heap_set_ne hb]
  have cel : ∀ i, 117 ≠ i → 118 ≠ i → 121 ≠ i → (initW w nb 117).cell? ⟨nb, i, none⟩ = w.cell? ⟨nb, i, none⟩ := fun i a b c => by
    unfold initW; rw [cs_ne rfl (fun h => c h.2), cs_ne rfl (fun h => b h.2), cs_ne rfl (fun h => a h.2)]
  have wn : Wr (initW w nb 117) nb := ((I.wn.set _ _ _).set _ _ _).set _ _ _
  have sz : (initW w nb 117).heap.size = w.heap.size := by simp [initW]
  have fld : (initW w nb 117).os = w.os ∧ (initW w nb 117).tape = w.tape ∧ (initW w nb 117).output = w.output := by
    unfold initW
    refine ⟨?_, ?_, ?_⟩
    · rw [set_os, set_os, set_os]
    · rw [set_tape, set_tape, set_tape]
    · rw [set_output, set_output, set_output]
  have kn := I.kn
  have km := I.km
  have mn : nb ≠ mb := fun h => by rw [← h, kn] at km; cases km
  have ch : Chain (initW w nb 117) nb [nb, nb] := by
    refine ⟨⟨?_, ?_⟩, trivial⟩
    · unfold nextIs; rw [off_root]; exact c0
    · unfold prevIs; rw [off_root]; exact c1
  refine ⟨⟨kn, wn, (cel _ (by decide) (by decide) (by decide)).trans I.cN, (cel _ (by decide) (by decide) (by decide)).trans I.cK, (cel _ (by decide) (by decide) (by decide)).trans I.cF, (cel _ (by decide) (by decide) (by decide)).trans I.ch, (cel _ (by decide) (by decide) (by decide)).trans I.cm, c4, Or.inr ch, km, ?_, I.nd, I.na, I.nk, by simp⟩, ch, ⟨fld.1, fld.2.1, fld.2.2, by rw [sz]; exact Nat.le_refl _, fun b _ k1 => oth b (fun h => by rw [← h, kn] at k1; simp at k1)⟩, sz, oth⟩
  obtain ⟨D, ⟨es, clock, hb, r⟩, hM⟩ := I.map
  exact ⟨D, ⟨es, clock, (oth mb mn).trans hb, r⟩, hM⟩

theorem push_ready {w : World} {κ : Nat → Nat} {nb mb : Nat} {N K F : Int} {L : List Ent} (I : Inv w κ nb mb N K F L) (hl : L.length ≤ 900) :
    ∃ (w0 : World) (f : Nat) (B : List Nat), Inv w0 κ nb mb N K F L ∧ Fr κ w w0 ∧ w0.heap.size = w.heap.size ∧ (∀ b, nb ≠ b → w0.heap[b]? = w.heap[b]?) ∧ Chain w0 nb (nb :: L.map Ent.eb ++ [nb]) ∧ L.map Ent.eb ++ [nb] = f :: B ∧
      ∀ a0, Calls Yba.prog 44 #[ptr nb 117, .iface 102 (ptr a0 0)] w fun e w' => e = .returned (ptr w.heap.size 0) ∧ w' = insW (w0.alloc (elObj (.iface 102 (ptr a0 0)))) nb 117 w.heap.size f (off nb f) (L.length : Nat) := by
  rcases I.ring with ⟨rfl, l0, l1⟩ | hC
  · obtain ⟨I0, ch, fr, sz, oth⟩ := inv_init I l0 l1
    refine ⟨initW w nb 117, nb, [], I0, fr, sz, oth, ch, rfl, fun a0 => ?_⟩
    rw [off_root]
    exact pushFront_nil nb 117 _ w l0 l1 I.cl I.wn.fz a0
  · obtain ⟨f, B, hB⟩ : ∃ f B, L.map Ent.eb ++ [nb] = f :: B := by
      cases h : L.map Ent.eb with
      | nil => exact ⟨nb, [], rfl⟩
      | cons x t => exact ⟨x, t ++ [nb], rfl⟩
    obtain ⟨k1, k2⟩ := chain_head hB hC
    obtain ⟨wf, _⟩ := el_wr I (mem_head hB)
    unfold nextIs at k1
    rw [off_root] at k1
    refine ⟨w, f, B, I, Fr.refl _ _, rfl, fun _ _ => rfl, hC, hB, fun a0 => ?_⟩
    exact pushFront_any nb 117 f (off nb f) (L.length : Nat) _ w k1 k2 I.cl (by omega) (by omega) wf.fz I.wn.fz (fun h => by rw [h, off_root]) a0

/-- Behind the map's turn in add: what is left is to count the names. -/
structure Mid (w : World) (κ : Nat → Nat) (nb mb : Nat) (N K F : Int) (L : List Ent) (e : Ent) (wx : World) : Prop where
  ch : wx.cell? ⟨nb, 115, none⟩ = some (.int .i64 (heldOf L))
  ans : wx.heap[e.ab]? = some (.cells #[.string e.key, e.mv, .bool e.come, .int .i64 e.since] 105 (0, 0))
  wn : Wr wx nb
  done : ∀ w' : World, w'.heap = (wx.setCell ⟨nb, 115, none⟩ (.int .i64 (heldOf (e :: L)))).heap → w'.os = wx.os → w'.tape = wx.tape → w'.output = wx.output → Inv w' (kset κ e.eb 2) nb mb N K F (e :: L) ∧ Fr κ w w'

theorem Mid.same {w : World} {κ : Nat → Nat} {nb mb : Nat} {N K F : Int} {L : List Ent} {e : Ent} {wx wy : World} (h : Mid w κ nb mb N K F L e wx) (hh : wy.heap = wx.heap) (ho : wy.os = wx.os) (ht : wy.tape = wx.tape) (hu : wy.output = wx.output) : Mid w κ nb mb N K F L e wy := by
  refine ⟨?_, by rw [hh]; exact h.ans, ?_, fun w' a1 a2 a3 a4 => h.done w' ?_ (a2.trans ho) (a3.trans ht) (a4.trans hu)⟩
  · have := h.ch; unfold World.cell? at this ⊢; rw [hh]; exact this
  · obtain ⟨c, T, hc⟩ := h.wn; exact ⟨c, T, by rw [hh]; exact hc⟩
  · rw [a1]; simp only [World.setCell, hh]

theorem mid_push {w w0 w1 w2 : World} {κ : Nat → Nat} {nb mb n f : Nat} {N K F : Int} {L : List Ent} {e : Ent} {B : List Nat} {D : DataW Unit} (I : Inv w0 κ nb mb N K F L) (fr : Fr κ w w0) (hC : Chain w0 nb (nb :: L.map Ent.eb ++ [nb])) (hB : L.map Ent.eb ++ [nb] = f :: B)
    (heb : e.eb = w0.heap.size) (ka : κ e.ab = 3) (hans : w0.heap[e.ab]? = some (.cells #[.string e.key, e.mv, .bool e.come, .int .i64 e.since] 105 (0, 0))) (hms : MsOk w0 κ e.mv e.m) (kz : e.key.size ≤ 100) (mz : e.m ≤ 6) (sz : 0 ≤ e.since ∧ e.since < 64)
    (hna : ∀ x ∈ L, x.ab ≠ e.ab) (hnk : ∀ x ∈ L, x.key ≠ e.key)
    (h1 : w1 = insW (w0.alloc (elObj (.iface 102 (ptr e.ab 0)))) nb 117 e.eb f (off nb f) (L.length : Nat))
    (g2 : w1.grownBy w2 (some mb)) (hD : w0.ownsMap Yba.prog 9 pElem mb (Maps.size D) D) (hM : MapOk D L) (hD2 : w2.ownsMap Yba.prog 9 pElem mb n (D.put (.string e.kl) (.lit (.int .i64 e.eb)))) :
    Mid w κ nb mb N K F L e w2 := by
  have kn := I.kn
  have km := I.km
  have ln := I.wn.lt
  have mn : mb ≠ nb := fun h => by rw [h, kn] at km; cases km
  have an : nb ≠ e.ab := fun h => by rw [← h, kn] at ka; cases ka
  have am : e.ab ≠ mb := fun h => by rw [h, km] at ka; cases ka
  have la : e.ab < w0.heap.size := (Array.getElem?_eq_some_iff.1 hans).1
  obtain ⟨wf, kf⟩ := el_wr I (mem_head hB)
  have fa : f ≠ e.ab := fun h => by rw [h, ka] at kf; rcases kf with h | h <;> cases h
  have ea : e.eb ≠ e.ab := by omega
  have ne : e.eb ≠ nb := by omega
  have fld := insW_fields (w0.alloc (elObj (.iface 102 (ptr e.ab 0)))) nb 117 e.eb f (off nb f) (L.length : Nat)
  rw [← h1] at fld
  have sz1 : w1.heap.size = w0.heap.size + 1 := fld.2.2.2.trans (by simp)
  have b1 : w1.heap[e.ab]? = w0.heap[e.ab]? := by rw [h1, insW_heap fa ea an]; exact heap_old la
  have c1 : w1.cell? ⟨nb, 115, none⟩ = w0.cell? ⟨nb, 115, none⟩ := by
    rw [h1, insW_cell (by simp) ?_ (fun h => ne h.1) (by simp)]
    · exact World.cell?_of_block (heap_old ln)
    · rintro ⟨rfl, h⟩; rw [off_root] at h; cases h
  have wn1 : Wr w1 nb := by rw [h1]; exact insW_wr (I.wn.alloc _)
  have hb2 : w2.heap[nb]? = w1.heap[nb]? := g2.block nb (by omega) (fun h => by injection h with h; exact mn h.symm)
  refine ⟨(World.cell?_of_block hb2).trans (c1.trans I.ch), (g2.block _ (by omega) (fun h => by injection h with h; exact am h)).trans (b1.trans hans), ?_, fun w' a1 a2 a3 a4 => ?_⟩
  · obtain ⟨c, T, hc⟩ := wn1; exact ⟨c, T, hb2.trans hc⟩
  · obtain ⟨I', fr'⟩ := inv_push I hC hB heb ka hans hms kz mz sz hna hnk h1 g2 hD hM hD2 a1 a2 a3 a4
    exact ⟨I', fr.trans fr' (fun _ _ => rfl)⟩

theorem fr_drewN {κ : Nat → Nat} {w w' : World} {n : Nat} (h : Fr κ (w.drewN n) w') : Fr κ w w' := ⟨h.os, h.tape, h.output, h.size, h.block⟩

set_option maxHeartbeats 4000000 in
set_option maxRecDepth 100000 in
theorem add_any {w : World} {κ : Nat → Nat} {nb mb N : Nat} {K F : Int} {L : List Ent} {e : Ent} (I : Inv w κ nb mb (N : Int) K F L) (hl : L.length ≤ 900) (hheld : heldOf L ≤ 90000) (hN : N ≤ 100)
    (heb : e.eb = w.heap.size) (ka : κ e.ab = 3) (hans : w.heap[e.ab]? = some (.cells #[.string e.key, e.mv, .bool e.come, .int .i64 e.since] 105 (0, 0))) (hms : MsOk w κ e.mv e.m) (kz : e.key.size ≤ 100) (mz : e.m ≤ 6) (sz : 0 ≤ e.since ∧ e.since < 64)
    (hna : ∀ x ∈ L, x.ab ≠ e.ab) (hnk : ∀ x ∈ L, x.key ≠ e.key) :
    Calls Yba.prog 32 #[ptr nb 112, ptr e.ab 0] w fun r w' => r = .returned (.tuple #[]) ∧ Inv w' (kset κ e.eb 2) nb mb (N : Int) K F ((e :: L).take (fitK N (fun k => heldOf ((e :: L).take k)) (L.length + 1))) ∧ Fr κ w w' := by
  have kn := I.kn
  have km := I.km
  have an : nb ≠ e.ab := fun h => by rw [← h, kn] at ka; cases ka
  have hkz := keyS kz
  -- PushFront, then the map's turn
  have HP : Hid (∀ n, ∃ w1 : World, Calls Yba.prog 44 #[ptr nb 117, .iface 102 (ptr e.ab 0)] (w.drewN n) (fun r w' => r = .returned (ptr e.eb 0) ∧ w' = w1) ∧ w1.cell? ⟨nb, 116, none⟩ = some (.map (some mb)) ∧ w1.cell? ⟨e.ab, 0, none⟩ = some (.string e.key) ∧
      ∃ w2 : World, (Instr.mapUpdate 67 (.map (some mb)) (.string e.key) (ptr e.eb 0)).run Yba.prog w1 = .ok () w2 ∧ Mid w κ nb mb (N : Int) K F L e w2) := fun n => by
    obtain ⟨w0, f, B, I0, fr, sz0, oth, hC, hB, hp⟩ := push_ready (I.drewN n) hl
    have hans0 : w0.heap[e.ab]? = some (.cells #[.string e.key, e.mv, .bool e.come, .int .i64 e.since] 105 (0, 0)) := (oth _ an).trans hans
    have heb0 : e.eb = w0.heap.size := heb.trans sz0.symm
    have hms0 : MsOk w0 κ e.mv e.m := hms.frame (Nat.le_of_eq sz0.symm) (fun _ _ _ => rfl) (fun b hb k1 => (fr.block b hb (by omega)))
    obtain ⟨D, hD, hM⟩ := I0.map
    obtain ⟨w1, h1⟩ : ∃ w1, w1 = insW (w0.alloc (elObj (.iface 102 (ptr e.ab 0)))) nb 117 e.eb f (off nb f) (L.length : Nat) := ⟨_, rfl⟩
    have ln := I0.wn.lt
    have lm := hD.lt
    have kf := (el_wr I0 (mem_head hB)).2
    have la : e.ab < w0.heap.size := (Array.getElem?_eq_some_iff.1 hans0).1
    have fa : f ≠ e.ab := fun h => by rw [h, ka] at kf; rcases kf with h | h <;> cases h
    have fm : f ≠ mb := fun h => by rw [h, km] at kf; rcases kf with h | h <;> cases h
    have ne : e.eb ≠ nb := by omega
    have nm : nb ≠ mb := fun h => by rw [← h, kn] at km; cases km
    have b1 : w1.heap[e.ab]? = w0.heap[e.ab]? := by rw [h1, insW_heap fa (by omega) an]; exact heap_old la
    have bm : w1.heap[mb]? = w0.heap[mb]? := by rw [h1, insW_heap fm (by omega) nm]; exact heap_old lm
    have c1 : w1.cell? ⟨nb, 116, none⟩ = w0.cell? ⟨nb, 116, none⟩ := by
      rw [h1, insW_cell (by simp) ?_ (fun h => ne h.1) (by simp)]
      · exact World.cell?_of_block (heap_old ln)
      · rintro ⟨rfl, h⟩; rw [off_root] at h; cases h
    have hD1 : w1.ownsMap Yba.prog 9 pElem mb (Maps.size D) D := by
      obtain ⟨es, clock, hb, r⟩ := hD
      exact ⟨es, clock, bm.trans hb, r⟩
    obtain ⟨w2, hrun, hD2, hturn⟩ := hD1.store law9 Yba.underlying67 (by rw [hM.size]; unfold maxLen; omega) hkz (pElem_ptr e.eb)
    refine ⟨w1, ?_, c1.trans I0.cm, ?_, w2, hrun, ?_⟩
    · rw [h1, heb]; exact hp e.ab
    · unfold World.cell?; rw [b1, hans0]; simp
    · exact mid_push I0 (fr_drewN fr) hC hB heb0 ka hans0 hms0 kz mz sz hna hnk h1 hturn.grown hD hM hD2
  have c0 : w.cell? ⟨e.ab, 0, none⟩ = some (.string e.key) := by unfold World.cell?; rw [hans]; simp
  have c116 := I.cm
  obtain ⟨ao, cap, hmv⟩ := mv_len hms
  have Hhc : Hid _ := heldOf_cons e L
  have heb' : Hid _ := heb
  clear I hans hms hna hnk heb
  go_enter Yba.func32, Yba.ntmps32
  go_upto_region 0 with fail
  go_cut [] (fun wx => Mid w κ nb mb (N : Int) K F L e wx)
  case first =>
    go_region_with (go_at_call 44; obtain ⟨w1, HC, d1, d2, w2, hrun, hmid⟩ := HP.out _; refine Calls.mono HC ?_; rintro r w' ⟨rfl, rfl⟩; have HMd : Hid _ := hmid; clear hmid)
    all_goals
      go_wp2_with fail
      go_meet
      exact HMd.out.same rfl rfl rfl rfl
  case rest =>
    have hM := hcut
    have c115 := hM.ch
    have fz := hM.wn.fz 115
    have hans := hM.ans
    rw [hmv] at hans
    have HM : Hid _ := hM
    have HS : Hid (∀ wz : World, wz.heap = wc.heap → Calls Yba.prog 37 #[ptr e.ab 0] wz fun r w' => r = .returned (.int .i64 (msz e.m : Nat)) ∧ w' = wz) := fun wz hz => size_any e.ab _ ao e.m cap _ _ wz (by rw [hz]; exact hans) mz
    have hms : msz e.m ≤ 6 := by unfold msz; split <;> omega
    have hhc := Hhc.out
    have hlen : (e :: L).length = L.length + 1 := rfl
    have HFit : Hid (∀ wy : World, wy.heap = (wc.setCell ⟨nb, 115, none⟩ (.int .i64 (heldOf (e :: L)))).heap → wy.os = wc.os → wy.tape = wc.tape → wy.output = wc.output → Calls Yba.prog 38 #[ptr nb 112] wy fun r w' => r = .returned (.tuple #[]) ∧ Inv w' (kset κ e.eb 2) nb mb (N : Int) K F ((e :: L).take (fitK N (fun k => heldOf ((e :: L).take k)) (L.length + 1))) ∧ Fr κ w w') := fun wy a1 a2 a3 a4 => by
      obtain ⟨I', fr'⟩ := HM.out.done wy a1 a2 a3 a4
      refine (fit_any I' (by rw [hlen]; omega) (by omega) hN).mono ?_
      rintro r w' ⟨rfl, I2, fr2⟩
      exact ⟨rfl, I2, fr'.trans fr2 (fun i hi => kset_lt (by rw [heb'.out]; exact hi))⟩
    clear hcut hM hans hmv HM
    generalize heldOf (e :: L) = H at *
    generalize heldOf L = H' at *
    generalize msz e.m = M at *
    obtain rfl : H = H' + M := by omega
    have hwr : IntKind.i64.wrap ((H' : Int) + (M : Int)) = (H' : Int) + (M : Int) := wrap64 (by omega) (by omega)
    have hcast : ((H' + M : Nat) : Int) = (H' : Int) + (M : Int) := by omega
    rw [hcast] at HFit
    go_wp2_with fail
    go_region_with (go_at_call 37; refine Calls.mono (HS.out _ rfl) ?_; rintro r w' ⟨rfl, rfl⟩)
    all_goals
      go_wp2_with (go_at_call 38; refine Calls.mono (HFit.out _ rfl rfl rfl rfl) ?_; rintro r w' ⟨rfl, I2, fr2⟩; have HI2 : Hid _ := I2; have HF2 : Hid _ := fr2; clear I2 fr2)
      go_end0
      exact ⟨rfl, HI2.out, HF2.out⟩
end Go.Proofs.Ybulkdbks

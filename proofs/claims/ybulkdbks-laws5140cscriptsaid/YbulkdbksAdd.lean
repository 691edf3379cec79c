import Derived.Test.YbulkdbksFit
namespace Go.Proofs.Ybulkdbks
open Go Go.RowKit

theorem insW_fields (w : World) (lb lo eb sb so : Nat) (n : Int) : (insW w lb lo eb sb so n).os = w.os ∧ (insW w lb lo eb sb so n).tape = w.tape ∧ (insW w lb lo eb sb so n).output = w.output ∧ (insW w lb lo eb sb so n).heap.size = w.heap.size := by
  unfold insW
  refine ⟨?_, ?_, ?_, ?_⟩
  · rw [set_os, set_os, set_os, set_os, set_os, set_os]
  · rw [set_tape, set_tape, set_tape, set_tape, set_tape, set_tape]
  · rw [set_output, set_output, set_output, set_output, set_output, set_output]
  · simp

theorem heap_old {w : World} {o : Obj} {b : Nat} (h : b < w.heap.size) : (w.alloc o).heap[b]? = w.heap[b]? := RowKit.Below.heap_alloc w o b h

theorem chain_alloc {w : World} {o : Obj} {nb : Nat} {l : List Nat} (h : Chain w nb l) (hl : ∀ x ∈ l, x < w.heap.size) : Chain (w.alloc o) nb l :=
  chain_frame (w := w) (fun x hx => World.cell?_of_block (heap_old (hl x (List.dropLast_subset _ hx)))) (fun y hy => World.cell?_of_block (heap_old (hl y (List.mem_of_mem_tail hy)))) h

theorem heldOf_cons (e : Ent) (L : List Ent) : heldOf (e :: L) = msz e.m + heldOf L := by simp [heldOf]

/-- κ with block b of kind k. -/
def kset (κ : Nat → Nat) (b k : Nat) : Nat → Nat := fun i => if i = b then k else κ i
theorem kset_eq (κ : Nat → Nat) (b k : Nat) : kset κ b k b = k := by simp [kset]
theorem kset_ne {κ : Nat → Nat} {b k i : Nat} (h : i ≠ b) : kset κ b k i = κ i := by simp [kset, h]
theorem kset_lt {κ : Nat → Nat} {b k i : Nat} (h : i < b) : kset κ b k i = κ i := kset_ne (Nat.ne_of_lt h)

set_option maxHeartbeats 2000000 in
theorem inv_push {w w1 w2 w' : World} {κ : Nat → Nat} {nb mb n f : Nat} {N K F : Int} {L : List Ent} {e : Ent} {B : List Nat} {D : DataW Unit} (I : Inv w κ nb mb N K F L) (hC : Chain w nb (nb :: L.map Ent.eb ++ [nb])) (hB : L.map Ent.eb ++ [nb] = f :: B)
    (heb : e.eb = w.heap.size) (ka : κ e.ab = 3) (hans : w.heap[e.ab]? = some (.cells #[.string e.key, e.mv, .bool e.come, .int .i64 e.since] 105 (0, 0))) (hms : MsOk w κ e.mv e.m) (kz : e.key.size ≤ 100) (mz : e.m ≤ 6) (sz : 0 ≤ e.since ∧ e.since < 64)
    (hna : ∀ x ∈ L, x.ab ≠ e.ab) (hnk : ∀ x ∈ L, x.key ≠ e.key)
    (h1 : w1 = insW (w.alloc (elObj (.iface 102 (ptr e.ab 0)))) nb 117 e.eb f (off nb f) (L.length : Nat))
    (g2 : w1.grownBy w2 (some mb)) (hD : w.ownsMap Yba.prog 9 pElem mb (Maps.size D) D) (hM : MapOk D L) (hD2 : w2.ownsMap Yba.prog 9 pElem mb n (D.put (.string e.kl) (.lit (.int .i64 e.eb))))
    (hh : w'.heap = (w2.setCell ⟨nb, 115, none⟩ (.int .i64 (heldOf (e :: L)))).heap) (ho : w'.os = w2.os) (ht : w'.tape = w2.tape) (hu : w'.output = w2.output) :
    Inv w' (kset κ e.eb 2) nb mb N K F (e :: L) ∧ Fr κ w w' := by
  have kn := I.kn
  have km := I.km
  have ln := I.wn.lt
  have lm := hD.lt
  have nn := nb_not_el I
  have mn : mb ≠ nb := fun h => by rw [h, kn] at km; cases km
  have hf := mem_head hB
  obtain ⟨wf, kf⟩ := el_wr I hf
  have lf := wf.lt
  have ne : e.eb ≠ nb := by omega
  have fe : f ≠ e.eb := by omega
  have em : e.eb ≠ mb := by omega
  have ell : ∀ x, x = nb ∨ x ∈ L.map Ent.eb → x < w.heap.size := fun x hx => (el_wr I hx).1.lt
  have eL : e.eb ∉ L.map Ent.eb := fun h => by have := ell _ (Or.inr h); omega
  obtain ⟨wa, hwa⟩ : ∃ wa, wa = w.alloc (elObj (.iface 102 (ptr e.ab 0))) := ⟨_, rfl⟩
  have sza : wa.heap.size = w.heap.size + 1 := by rw [hwa]; simp
  have olda : ∀ b, b < w.heap.size → wa.heap[b]? = w.heap[b]? := fun b hb => by rw [hwa]; exact heap_old hb
  have newa : wa.heap[e.eb]? = some (elObj (.iface 102 (ptr e.ab 0))) := by rw [hwa, heb]; exact heap_new
  have ca : ∀ i v, (#[Value.pointer none, Value.pointer none, Value.pointer none, .iface 102 (ptr e.ab 0)] : Array Value)[i]? = some v → wa.cell? ⟨e.eb, i, none⟩ = some v := fun i v h => by
    unfold World.cell?; rw [newa]; simpa using h
  rw [← hwa] at h1
  have hCa : Chain wa nb (nb :: L.map Ent.eb ++ [nb]) := by
    rw [hwa]
    refine chain_alloc hC (fun x hx => ell x ?_)
    simp at hx
    rcases hx with h | h | h
    · exact Or.inl h
    · exact Or.inr (List.mem_map.2 h)
    · exact Or.inl h
  have cla : wa.cell? ⟨nb, 121, none⟩ = some (.int .i64 L.length) := (World.cell?_of_block (olda nb ln)).trans I.cl
  obtain ⟨j1, j2⟩ := chain_head hB hCa
  unfold nextIs at j1; rw [off_root] at j1
  have chn := chain_insW (n := (L.length : Nat)) hB I.nd nn eL ne hCa (ca 0 _ rfl) (ca 1 _ rfl) (ca 2 _ rfl) cla
  obtain ⟨q0, q1, q2, q3, q4, q5⟩ := insW_cells (n := (L.length : Nat)) (ca 0 _ rfl) (ca 1 _ rfl) (ca 2 _ rfl) j1 j2 cla fe (Ne.symm ne) (fun h => by rw [h, off_root])
  have fld := insW_fields wa nb 117 e.eb f (off nb f) (L.length : Nat)
  have icell : ∀ b i, ¬ (nb = b ∧ 117 = i) → ¬ (f = b ∧ off nb f + 1 = i) → ¬ (e.eb = b ∧ i < 3) → ¬ (nb = b ∧ 121 = i) → w1.cell? ⟨b, i, none⟩ = wa.cell? ⟨b, i, none⟩ := fun b i a1 a2 a3 a4 => by rw [h1]; exact insW_cell a1 a2 a3 a4
  have iheap : ∀ b, f ≠ b → e.eb ≠ b → nb ≠ b → w1.heap[b]? = wa.heap[b]? := fun b a1 a2 a3 => by rw [h1]; exact insW_heap a1 a2 a3
  have iwr : ∀ b, Wr wa b → Wr w1 b := fun b h => by rw [h1]; exact insW_wr h
  rw [← h1] at chn q0 q1 q2 q3 q4 q5 fld
  have fa : wa.os = w.os ∧ wa.tape = w.tape ∧ wa.output = w.output := by rw [hwa]; exact ⟨rfl, rfl, rfl⟩
  clear h1 hwa
  have sz1 : w1.heap.size = w.heap.size + 1 := fld.2.2.2.trans sza
  -- blocks that are none of the ring's and not the map
  have oth : ∀ b, b < w.heap.size → κ b ≠ 2 → κ b ≠ 4 → κ b ≠ 5 → w'.heap[b]? = w.heap[b]? := fun b hb k2 k4 k5 => by
    have b1 : nb ≠ b := fun h => k4 (h ▸ kn)
    have b2 : f ≠ b := fun h => by subst h; rcases kf with h | h; exact k4 h; exact k2 h
    have b3 : e.eb ≠ b := by rw [heb]; exact (Nat.ne_of_lt hb).symm
    rw [hh, heap_set_ne b1, g2.block b (by rw [sz1]; exact Nat.lt_succ_of_lt hb) (fun h => by injection h with h; exact k5 (h ▸ km)), iheap b b2 b3 b1]
    exact olda b hb
  have cel : ∀ b i, b < w1.heap.size → b ≠ mb → ¬ (nb = b ∧ 115 = i) → w'.cell? ⟨b, i, none⟩ = w1.cell? ⟨b, i, none⟩ := fun b i hb hm hi => by
    have e1 : w'.cell? ⟨b, i, none⟩ = (w2.setCell ⟨nb, 115, none⟩ (.int .i64 (heldOf (e :: L)))).cell? ⟨b, i, none⟩ := by simp only [World.cell?, hh]
    rw [e1, cs_ne rfl hi]
    exact World.cell?_of_block (g2.block b hb (fun h => by injection h with h; exact hm h))
  have wr : ∀ b, b ≠ mb → Wr wa b → Wr w' b := fun b hm hb => by
    have r2 : Wr w2 b := by
      obtain ⟨c, T, hc⟩ := iwr b hb
      exact ⟨c, T, (g2.block b (by rw [sz1, ← sza]; exact hb.lt) (fun h => by injection h with h; exact hm h)).trans hc⟩
    obtain ⟨c, T, hc⟩ := r2.set nb 115 (.int .i64 (heldOf (e :: L)))
    exact ⟨c, T, by rw [hh]; exact hc⟩
  have wra : ∀ b, Wr w b → Wr wa b := fun b hb => by
    obtain ⟨c, T, hc⟩ := hb
    exact ⟨c, T, (olda b (Wr.lt ⟨c, T, hc⟩)).trans hc⟩
  have ln1 : nb < w1.heap.size := by rw [sz1]; exact Nat.lt_succ_of_lt ln
  have nbc : ∀ i, i ≠ 115 → i ≠ 117 → i ≠ 118 → i ≠ 121 → w'.cell? ⟨nb, i, none⟩ = w.cell? ⟨nb, i, none⟩ := fun i a b c d => by
    rw [cel nb i ln1 (Ne.symm mn) (fun h => a h.2.symm), icell nb i (fun h => b h.2.symm) ?_ (fun h => ne h.1) (fun h => d h.2.symm)]
    · exact World.cell?_of_block (olda nb ln)
    · rintro ⟨rfl, h⟩; rw [off_root] at h; exact c h.symm
  have kk : ∀ b, b < w.heap.size → kset κ e.eb 2 b = κ b := fun b hb => kset_lt (by rw [heb]; exact hb)
  have keys : ∀ x ∈ L, x.kl ≠ e.kl := fun x hx h => hnk x hx (kl_inj h)
  have szw : w.heap.size ≤ w'.heap.size := by rw [hh]; have := g2.size; rw [sz1] at this; simp; omega
  refine ⟨⟨(kk nb ln).trans kn, wr nb (Ne.symm mn) (wra nb I.wn), (nbc _ (by decide) (by decide) (by decide) (by decide)).trans I.cN, (nbc _ (by decide) (by decide) (by decide) (by decide)).trans I.cK, (nbc _ (by decide) (by decide) (by decide) (by decide)).trans I.cF, ?_, (nbc _ (by decide) (by decide) (by decide) (by decide)).trans I.cm, ?_, ?_, (kk mb lm).trans km, ⟨_, ?_, hM.put (hD.tidy law9) keys⟩, ?_, ?_, ?_, ?_⟩, ?_⟩
  · have u : w2.cell? ⟨nb, 115, none⟩ = some (.int .i64 (heldOf L)) := by
      rw [World.cell?_of_block (g2.block nb ln1 (fun h => by injection h with h; exact mn h.symm)), icell nb 115 (by simp) ?_ (fun h => ne h.1) (by simp)]
      · exact (World.cell?_of_block (olda nb ln)).trans I.ch
      · rintro ⟨rfl, h⟩; rw [off_root] at h; simp at h
    have := cs_eq (v := .int .i64 (heldOf (e :: L))) rfl u
    simp only [World.cell?, hh] at this ⊢
    exact this
  · rw [cel nb 121 ln1 (Ne.symm mn) (by simp), q5]
    simp
  · right
    show Chain w' nb (nb :: (e.eb :: L.map Ent.eb) ++ [nb])
    have mem : ∀ x, (x = nb ∨ x = e.eb ∨ x ∈ L.map Ent.eb) → x < w1.heap.size ∧ x ≠ mb := fun x hx => by
      rcases hx with h | h | h
      · exact h ▸ ⟨ln1, Ne.symm mn⟩
      · exact h ▸ ⟨by rw [sz1, heb]; exact Nat.lt_succ_self _, em⟩
      · obtain ⟨wx, kx⟩ := el_wr I (Or.inr h)
        exact ⟨by rw [sz1]; exact Nat.lt_succ_of_lt wx.lt, fun hm => by subst hm; rw [km] at kx; rcases kx with h | h <;> cases h⟩
    refine chain_frame ?_ ?_ chn
    · intro x hx
      rw [List.dropLast_concat] at hx
      have := mem x (by simpa using hx)
      refine cel x _ this.1 this.2 ?_
      rintro ⟨rfl, h⟩; rw [off_root] at h; cases h
    · intro x hx
      have := mem x (by
        simp at hx
        rcases hx with h | h | h
        · exact Or.inr (Or.inl h)
        · exact Or.inr (Or.inr (List.mem_map.2 h))
        · exact Or.inl h)
      refine cel x _ this.1 this.2 ?_
      rintro ⟨rfl, h⟩; rw [off_root] at h; cases h
  · refine ownsMap_tight (n := n) ?_
    obtain ⟨es, clock, hb, r⟩ := hD2
    exact ⟨es, clock, by rw [hh, heap_set_ne (Ne.symm mn)]; exact hb, r⟩
  · exact List.nodup_cons.2 ⟨eL, I.nd⟩
  · exact List.nodup_cons.2 ⟨fun h => by obtain ⟨x, hx, h⟩ := List.mem_map.1 h; exact hna x hx h, I.na⟩
  · exact List.nodup_cons.2 ⟨fun h => by obtain ⟨x, hx, h⟩ := List.mem_map.1 h; exact hnk x hx h, I.nk⟩
  · intro x hx
    rcases List.mem_cons.1 hx with rfl | hx
    · have la : x.ab < w.heap.size := (Array.getElem?_eq_some_iff.1 hans).1
      have le1 : x.eb < w1.heap.size := by rw [sz1, heb]; exact Nat.lt_succ_self _
      have fe' : f ≠ x.eb := fe
      refine ⟨kset_eq _ _ _, wr _ em ⟨_, _, newa⟩, ?_, ?_, (kk _ la).trans ka, (oth _ la (by rw [ka]; decide) (by rw [ka]; decide) (by rw [ka]; decide)).trans hans, ?_, kz, mz, sz⟩
      · rw [cel _ 2 le1 em (fun h => ne h.1.symm)]; exact q2
      · rw [cel _ 3 le1 em (fun h => ne h.1.symm), icell _ 3 (fun h => ne h.1.symm) (fun h => fe' h.1) (by simp) (fun h => ne h.1.symm)]
        exact ca 3 _ rfl
      · exact hms.frame szw (fun b hb _ => kk b hb) (fun b hb k1 => oth b hb (by rw [k1]; decide) (by rw [k1]; decide) (by rw [k1]; decide))
    · have X := I.ents x hx
      have kx := X.ke
      have lx := X.we.lt
      have xn : nb ≠ x.eb := fun h => by rw [← h, kn] at kx; cases kx
      have xm : x.eb ≠ mb := fun h => by rw [h, km] at kx; cases kx
      have xe : e.eb ≠ x.eb := by rw [heb]; exact (Nat.ne_of_lt lx).symm
      have lx1 : x.eb < w1.heap.size := by rw [sz1]; exact Nat.lt_succ_of_lt lx
      refine X.frame szw (fun b hb _ => kk b hb) (fun b hb k1 => oth b hb (by rw [k1]; decide) (by rw [k1]; decide) (by rw [k1]; decide)) (wr _ xm (wra _ X.we)) ?_ ?_ (oth _ X.al (by rw [X.ka]; decide) (by rw [X.ka]; decide) (by rw [X.ka]; decide))
      · rw [cel _ 2 lx1 xm (fun h => xn h.1), icell _ 2 (fun h => xn h.1) ?_ (fun h => xe h.1) (fun h => xn h.1)]
        · exact World.cell?_of_block (olda _ lx)
        · rintro ⟨rfl, h⟩; rw [off_el (Ne.symm xn)] at h; cases h
      · rw [cel _ 3 lx1 xm (fun h => xn h.1), icell _ 3 (fun h => xn h.1) ?_ (fun h => xe h.1) (fun h => xn h.1)]
        · exact World.cell?_of_block (olda _ lx)
        · rintro ⟨rfl, h⟩; rw [off_el (Ne.symm xn)] at h; cases h
  · exact ⟨ho.trans (g2.os.trans (fld.1.trans fa.1)), ht.trans (g2.tape.trans (fld.2.1.trans fa.2.1)), hu.trans (g2.output.trans (fld.2.2.1.trans fa.2.2)), szw, fun b hb k1 => oth b hb (by intro h; rw [h] at k1; simp at k1) (by intro h; rw [h] at k1; simp at k1) (by intro h; rw [h] at k1; simp at k1)⟩
end Go.Proofs.Ybulkdbks

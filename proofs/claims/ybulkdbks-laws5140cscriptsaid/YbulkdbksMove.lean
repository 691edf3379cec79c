import Derived.Test.YbulkdbksAddW
namespace Go.Proofs.Ybulkdbks
open Go Go.RowKit

theorem movW_fields (w : World) (lb lo eb pb po sb so fb fo : Nat) : (movW w lb lo eb pb po sb so fb fo).os = w.os ∧ (movW w lb lo eb pb po sb so fb fo).tape = w.tape ∧ (movW w lb lo eb pb po sb so fb fo).output = w.output ∧ (movW w lb lo eb pb po sb so fb fo).heap.size = w.heap.size := by
  unfold movW
  refine ⟨?_, ?_, ?_, ?_⟩
  · rw [set_os, set_os, set_os, set_os, set_os, set_os]
  · rw [set_tape, set_tape, set_tape, set_tape, set_tape, set_tape]
  · rw [set_output, set_output, set_output, set_output, set_output, set_output]
  · simp

theorem perm_front {α : Type} (l1 l2 : List α) (e : α) : (e :: (l1 ++ l2)).Perm (l1 ++ e :: l2) := List.perm_middle.symm
theorem heldOf_front (l1 l2 : List Ent) (e : Ent) : heldOf (e :: (l1 ++ l2)) = heldOf (l1 ++ e :: l2) := by rw [heldOf_mid, heldOf_cons]; omega

set_option maxHeartbeats 2000000 in
theorem inv_move {w w' : World} {κ : Nat → Nat} {nb mb p s f : Nat} {N K F : Int} {l1 l2 : List Ent} {e : Ent} {A B C : List Nat} (I : Inv w κ nb mb N K F (l1 ++ e :: l2))
    (hA : nb :: l1.map Ent.eb = A ++ [p]) (hB : l2.map Ent.eb ++ [nb] = s :: B) (hCf : (l1.map Ent.eb ++ l2.map Ent.eb) ++ [nb] = f :: C) (hC : Chain w nb (A ++ p :: e.eb :: s :: B)) (hp : p ∈ (l1 ++ l2).map Ent.eb) (hs : s = nb ∨ s ∈ (l1 ++ l2).map Ent.eb) (hpe : p ≠ e.eb) (hse : s ≠ e.eb)
    (h1 : w' = movW w nb 117 e.eb p (off nb p) s (off nb s) f (off nb f)) :
    Inv w' κ nb mb N K F (e :: (l1 ++ l2)) ∧ Fr κ w w' := by
  have kn := I.kn
  have km := I.km
  have E := I.ents e (by simp)
  have ke := E.ke
  have sub : ∀ x, x ∈ l1 ++ l2 → x ∈ l1 ++ e :: l2 := fun x hx => by simp at hx ⊢; rcases hx with h | h <;> simp [h]
  have elp : ∀ b, (b = nb ∨ b ∈ (l1 ++ l2).map Ent.eb) → b = nb ∨ b ∈ (l1 ++ e :: l2).map Ent.eb := fun b hb => hb.imp id (fun h => by
    obtain ⟨x, hx, rfl⟩ := List.mem_map.1 h
    exact List.mem_map.2 ⟨x, sub x hx, rfl⟩)
  have hf : f = nb ∨ f ∈ (l1 ++ l2).map Ent.eb := by
    have := mem_head hCf
    rw [List.map_append]; exact this
  have kp := (el_wr I (elp p (Or.inr hp))).2
  have ks := (el_wr I (elp s hs)).2
  have kf := (el_wr I (elp f hf)).2
  have nn := nb_not_el I
  have nd := I.nd
  have mapm : ∀ {α : Type} (g : Ent → α), (l1 ++ e :: l2).map g = l1.map g ++ g e :: l2.map g := fun g => by simp
  have mapm' : ∀ {α : Type} (g : Ent → α), (e :: (l1 ++ l2)).map g = g e :: (l1.map g ++ l2.map g) := fun g => by simp
  have mem' : ∀ x, x ∈ e :: (l1 ++ l2) → x ∈ l1 ++ e :: l2 := fun x hx => (perm_front l1 l2 e).mem_iff.1 hx
  rw [mapm] at nd nn
  have pn : p ≠ nb := fun h => by
    have : nb ∈ l1.map Ent.eb ++ e.eb :: l2.map Ent.eb := by
      rw [← h]; rw [List.map_append] at hp
      rcases List.mem_append.1 hp with h | h <;> simp only [List.mem_append, List.mem_cons]
      · exact Or.inl h
      · exact Or.inr (Or.inr h)
    exact nn this
  have chn := chain_movW hA hB hCf nd nn hC hpe hse pn
  have fld := movW_fields w nb 117 e.eb p (off nb p) s (off nb s) f (off nb f)
  have oth : ∀ b, κ b ≠ 2 → κ b ≠ 4 → w'.heap[b]? = w.heap[b]? := fun b k2 k4 => by
    rw [h1]
    exact movW_heap (fun h => by subst h; rcases kp with h | h; exact k4 h; exact k2 h) (fun h => by subst h; rcases ks with h | h; exact k4 h; exact k2 h) (fun h => by subst h; exact k2 ke) (fun h => by subst h; exact k4 kn) (fun h => by subst h; rcases kf with h | h; exact k4 h; exact k2 h)
  have ne : e.eb ≠ nb := fun h => nn (by simp [h])
  have nbc : ∀ i, i ≠ 117 → i ≠ 118 → w'.cell? ⟨nb, i, none⟩ = w.cell? ⟨nb, i, none⟩ := fun i a b => by
    rw [h1]
    refine movW_cell (fun h => pn h.1) ?_ (fun h => ne h.1) (fun h => a h.2.symm) ?_
    · rintro ⟨rfl, h⟩; rw [off_root] at h; exact b h.symm
    · rintro ⟨rfl, h⟩; rw [off_root] at h; exact b h.symm
  have ecel : ∀ x i, x ≠ nb → 1 < i → w'.cell? ⟨x, i, none⟩ = w.cell? ⟨x, i, none⟩ := fun x i hx hi => by
    rw [h1]
    refine movW_cell ?_ ?_ (fun h => absurd h.2 (by omega)) (fun h => hx h.1.symm) ?_
    · rintro ⟨rfl, h⟩; rw [off_el hx] at h; omega
    · rintro ⟨rfl, h⟩; rw [off_el hx] at h; omega
    · rintro ⟨rfl, h⟩; rw [off_el hx] at h; omega
  have wr : ∀ b, Wr w b → Wr w' b := fun b hb => by rw [h1]; exact movW_wr hb
  rw [← h1] at chn fld
  clear h1
  obtain ⟨D, hD, hM⟩ := I.map
  have szw : w.heap.size ≤ w'.heap.size := Nat.le_of_eq fld.2.2.2.symm
  refine ⟨⟨kn, wr nb I.wn, (nbc _ (by decide) (by decide)).trans I.cN, (nbc _ (by decide) (by decide)).trans I.cK, (nbc _ (by decide) (by decide)).trans I.cF, ?_, (nbc _ (by decide) (by decide)).trans I.cm, ?_, ?_, km, ⟨D, ?_, ?_⟩, ?_, ?_, ?_, ?_⟩, ?_⟩
  · rw [heldOf_front]; exact (nbc _ (by decide) (by decide)).trans I.ch
  · rw [(perm_front l1 l2 e).length_eq]; exact (nbc _ (by decide) (by decide)).trans I.cl
  · right; rw [mapm']; exact chn
  · obtain ⟨es, clock, hb, r⟩ := hD
    exact ⟨es, clock, (oth mb (by rw [km]; decide) (by rw [km]; decide)).trans hb, r⟩
  · refine hM.same (fun x hx => ⟨x, mem' x hx, rfl, rfl⟩) (fun x hx => ⟨x, (perm_front l1 l2 e).mem_iff.2 hx, rfl⟩) (perm_front l1 l2 e).length_eq
  · exact ((perm_front l1 l2 e).map Ent.eb).nodup_iff.2 I.nd
  · exact ((perm_front l1 l2 e).map Ent.ab).nodup_iff.2 I.na
  · exact ((perm_front l1 l2 e).map Ent.key).nodup_iff.2 I.nk
  · intro x hx
    have X := I.ents x (mem' x hx)
    have xn : x.eb ≠ nb := fun h => by have := X.ke; rw [h, kn] at this; cases this
    exact X.frame szw (fun _ _ _ => rfl) (fun b _ k1 => oth b (by rw [k1]; decide) (by rw [k1]; decide)) (wr _ X.we) (ecel _ 2 xn (by decide)) (ecel _ 3 xn (by decide)) (oth _ (by rw [X.ka]; decide) (by rw [X.ka]; decide))
  · exact ⟨fld.1, fld.2.1, fld.2.2.1, szw, fun b _ k1 => oth b (fun h => by rw [h] at k1; simp at k1) (fun h => by rw [h] at k1; simp at k1)⟩

theorem Inv.dr {w : World} {κ : Nat → Nat} {nb mb : Nat} {N K F : Int} {L : List Ent} (h : Inv w κ nb mb N K F L) (d : Nat) : Inv (Ybulkdbks.dr w d) κ nb mb N K F L := h.grow (Nat.le_refl _) (fun _ _ _ => rfl) (fun _ _ _ => rfl)

theorem Fr.dr {κ : Nat → Nat} {w w' : World} (h : Fr κ w w') (d : Nat) : Fr κ w (Ybulkdbks.dr w' d) := ⟨h.os, h.tape, h.output, h.size, h.block⟩

/-- MoveToFront at an element of the list. -/
theorem front_inv {w : World} {κ : Nat → Nat} {nb mb : Nat} {N K F : Int} {l1 l2 : List Ent} {e : Ent} (I : Inv w κ nb mb N K F (l1 ++ e :: l2)) :
    Calls Yba.prog 33 #[ptr nb 117, ptr e.eb 0] w fun r w' => r = .returned (.tuple #[]) ∧ Inv w' κ nb mb N K F (e :: (l1 ++ l2)) ∧ Fr κ w w' := by
  obtain ⟨A, p, s, B, hA, hB, hC, hp, hs, hpe, hse⟩ := I.around
  obtain ⟨k1, k2, k3, k4⟩ := ring_at hC
  have E := I.ents e (by simp)
  have ne : e.eb ≠ nb := fun h => nb_not_el I (by rw [← h]; simp)
  have oe := off_el ne
  simp only [nextIs, prevIs, oe, Nat.zero_add] at k1 k2 k3 k4
  cases l1 with
  | nil =>
    have hpn : p = nb := by
      have : [nb] = A ++ [p] := hA
      have := congrArg List.getLast? this
      simpa using this.symm
    subst hpn
    rw [off_root] at k1
    refine (moveToFront_first p 117 e.eb w E.c2 k1).mono ?_
    rintro r w' ⟨rfl, rfl⟩
    exact ⟨rfl, I, Fr.refl _ _⟩
  | cons x t =>
    have hl : p ∈ (x :: t).map Ent.eb := by
      rcases mem_last hA with h | h
      · exfalso
        have : (nb :: (x :: t).map Ent.eb).Nodup := by
          refine List.nodup_cons.2 ⟨fun hx => nb_not_el I (by rw [List.map_append]; exact List.mem_append.2 (Or.inl hx)), ?_⟩
          have := I.nd
          rw [List.map_append] at this
          exact (List.nodup_append.1 this).1
        rw [hA, h] at this
        have hA' : A ≠ [] := fun h0 => by rw [h0] at hA; simp at hA
        obtain ⟨a, A', rfl⟩ := List.exists_cons_of_ne_nil hA'
        have ha : a = nb := by have := congrArg List.head? hA; simpa using this.symm
        subst ha
        simp at this
      · exact h
    have hp' : p ∈ (x :: t ++ l2).map Ent.eb := by rw [List.map_append]; exact List.mem_append.2 (Or.inl hl)
    obtain ⟨f, C, hCf⟩ : ∃ f C, ((x :: t).map Ent.eb ++ l2.map Ent.eb) ++ [nb] = f :: C := ⟨x.eb, t.map Ent.eb ++ l2.map Ent.eb ++ [nb], by simp⟩
    have hfx : f = x.eb := by simp at hCf; exact hCf.1.symm
    have hr : Chain w nb (nb :: (x :: t ++ e :: l2).map Ent.eb ++ [nb]) := by
      rcases I.ring with ⟨h, _⟩ | h
      · simp at h
      · exact h
    have hx := hr.1
    have nx : x.eb ≠ nb := fun h => nb_not_el I (by rw [← h]; simp)
    obtain ⟨j1, j2⟩ := hx
    simp only [nextIs, prevIs, off_root] at j1 j2
    have pw := el_wr I (b := p) (Or.inr (by
      obtain ⟨y, hy, rfl⟩ := List.mem_map.1 hl
      exact List.mem_map.2 ⟨y, List.mem_append.2 (Or.inl hy), rfl⟩))
    have sw := el_wr I (b := s) (hs.imp id (fun h => by
      obtain ⟨y, hy, rfl⟩ := List.mem_map.1 h
      refine List.mem_map.2 ⟨y, ?_, rfl⟩
      rcases List.mem_append.1 hy with h | h
      · exact List.mem_append.2 (Or.inl h)
      · exact List.mem_append.2 (Or.inr (List.mem_cons_of_mem _ h))))
    have xw := el_wr I (b := x.eb) (Or.inr (by simp))
    have pn : p ≠ nb := fun h => by
      obtain ⟨y, hy, h'⟩ := List.mem_map.1 hl
      exact nb_not_el I (List.mem_map.2 ⟨y, List.mem_append.2 (Or.inl hy), h'.trans h⟩)
    have xe : x.eb ≠ e.eb := fun h => by
      have := I.nd
      simp at this
      exact this.1.2.1 h
    subst hfx
    refine (moveToFront_any nb 117 e.eb p (off nb p) s (off nb s) x.eb (off nb x.eb) _ _ _ w k3 k2 E.c2 k1 k4 j1 j2 E.we pw.1 sw.1 I.wn xw.1 hpe hse (Ne.symm ne) xe (fun h => by rw [h]) pn (fun h => by rw [h, off_root]) (fun h => by rw [h, off_root]) (fun h => by rw [h]) (fun h => by rw [h])).mono ?_
    rintro r w' ⟨rfl, d, hw⟩
    obtain ⟨I', fr'⟩ := inv_move I hA hB hCf hC hp' hs hpe hse rfl
    rw [hw]
    exact ⟨rfl, I'.dr d, fr'.dr d⟩
end Go.Proofs.Ybulkdbks

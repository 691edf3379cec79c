import Derived.Test.YbulkdbksKa
namespace Go.Proofs.Ybulkdbks
open Go Go.RowKit

theorem fitK_fits {N : Nat} {f : Nat → Nat} (h0 : f 0 ≤ N) : ∀ k, f (fitK N f k) ≤ N
  | 0 => h0
  | k + 1 => by
    unfold fitK
    split
    · exact fitK_fits h0 k
    · omega

theorem len_held (L : List Ent) : L.length ≤ heldOf L := by
  induction L with
  | nil => exact Nat.le_refl _
  | cons a t ih =>
    have h1 : 1 ≤ msz a.m := by unfold msz; split <;> omega
    have : heldOf (a :: t) = msz a.m + heldOf t := by simp [heldOf]
    rw [List.length_cons]
    omega

theorem held_take_fit (N : Nat) (L : List Ent) (k : Nat) : heldOf (L.take (fitK N (fun k => heldOf (L.take k)) k)) ≤ N :=
  fitK_fits (f := fun k => heldOf (L.take k)) (by simp [heldOf]) k

theorem addL_held (N : Nat) (e : Ent) (L : List Ent) : heldOf (addL N e L) ≤ N := held_take_fit N (e :: L) (L.length + 1)

theorem MR.take {w : World} {g cap k : Nat} {L : List Ent} (h : MR w (.slice (some ⟨g, 0, none⟩) L.length cap) L) (hk : k ≤ L.length) : MR w (.slice (some ⟨g, 0, none⟩) k cap) (L.take k) := by
  rcases h with ⟨h, _⟩ | ⟨g', cap', hv, h⟩
  · cases h
  · injection hv with hv _ hc
    injection hv with hv
    injection hv with hv
    subst hv hc
    have hl : (L.take k).length = k := by rw [List.length_take]; omega
    refine Or.inr ⟨g, cap, by rw [hl], ?_⟩
    rw [hl]
    refine ⟨by rw [rows_len, hl], ?_⟩
    rcases h.2 with ⟨h, _⟩ | ⟨g', cap', cur, hv, h1, h2, h3, h4, h5, h6⟩
    · cases h
    · injection hv with hv _ hc
      injection hv with hv
      injection hv with hv
      subst hv hc
      refine Or.inr ⟨g, cap, cur, rfl, h1, h2, by omega, h4, h5, ?_⟩
      have e1 : rows L = rows (L.take k) ++ rows (L.drop k) := by rw [← rows_append, List.take_append_drop]
      have e2 := congrArg (List.take (k * 4)) h6
      rw [List.take_take, Nat.min_eq_left (by omega), e1] at e2
      rw [e2]
      exact List.take_left' (by rw [rows_len, hl])

/-- The state between two steps of the script. -/
structure St (w0 : World) (cb nb mb N : Nat) (K F : Int) (κ : Nat → Nat) (L : List Ent) (w : World) : Prop where
  inv : Inv w κ nb mb (N : Int) K F L
  held : heldOf L ≤ N
  kc : κ cb = 0
  cfg : w.heap[cb]? = some (.cells #[.int .i64 N, .int .i64 K, .int .i64 F] 48 (0, 0))
  old : ∀ b, b < w0.heap.size → κ b = 0 ∧ w.heap[b]? = w0.heap[b]?
  os : w.os = w0.os
  tape : w.tape = w0.tape
  output : w.output = w0.output
  size : w0.heap.size ≤ w.heap.size

theorem St.lc {w0 w : World} {cb nb mb N : Nat} {K F : Int} {κ : Nat → Nat} {L : List Ent} (h : St w0 cb nb mb N K F κ L w) : cb < w.heap.size := (Array.getElem?_eq_some_iff.1 h.cfg).1

theorem St.step {w0 w w' : World} {cb nb mb N : Nat} {K F : Int} {κ κ' : Nat → Nat} {L L' : List Ent} (h : St w0 cb nb mb N K F κ L w) (I : Inv w' κ' nb mb (N : Int) K F L') (hh : heldOf L' ≤ N) (fr : Fr κ w w') (hk : ∀ b, b < w.heap.size → κ' b = κ b) : St w0 cb nb mb N K F κ' L' w' :=
  ⟨I, hh, (hk _ h.lc).trans h.kc, (fr.block cb h.lc (by rw [h.kc]; decide)).trans h.cfg, fun b hb => ⟨(hk b (Nat.lt_of_lt_of_le hb h.size)).trans (h.old b hb).1, (fr.block b (Nat.lt_of_lt_of_le hb h.size) (by rw [(h.old b hb).1]; decide)).trans (h.old b hb).2⟩,
    fr.os.trans h.os, fr.tape.trans h.tape, fr.output.trans h.output, Nat.le_trans h.size fr.size⟩

/-- The kinds, the new blocks not the node's. -/
def kz (κ : Nat → Nat) (n : Nat) : Nat → Nat := fun b => if b < n then κ b else 0
theorem kz_lt {κ : Nat → Nat} {n b : Nat} (h : b < n) : kz κ n b = κ b := if_pos h
theorem kz_ge {κ : Nat → Nat} {n b : Nat} (h : n ≤ b) : kz κ n b = 0 := if_neg (by omega)

theorem St.grow {w0 w w' : World} {cb nb mb N : Nat} {K F : Int} {κ : Nat → Nat} {L : List Ent} (h : St w0 cb nb mb N K F κ L w) (g : w.grownBy w' none) : St w0 cb nb mb N K F (kz κ w.heap.size) L w' :=
  h.step (h.inv.grow g.size (fun _ hb _ => kz_lt hb) (fun b hb _ => g.block b hb (by simp))) h.held (Fr.of_grown g) (fun _ hb => kz_lt hb)

/-- The law's own list beside it. -/
structure Mo (κ : Nat → Nat) (L : List Ent) (w : World) (v : Value) : Prop where
  row : MR w v L
  kb : ∀ g, v.ownBlock = some g → κ g = 0

theorem Mo.step {w w' : World} {κ κ' : Nat → Nat} {L : List Ent} {v : Value} (h : Mo κ L w v) (fr : Fr κ w w') (hk : ∀ b, b < w.heap.size → κ' b = κ b) : Mo κ' L w' v :=
  ⟨h.row.same (fun g hg => fr.block g (h.row.lt g hg) (by rw [h.kb g hg]; decide)), fun g hg => (hk g (h.row.lt g hg)).trans (h.kb g hg)⟩
theorem Mo.grow {w w' : World} {κ : Nat → Nat} {L : List Ent} {v : Value} (h : Mo κ L w v) (g : w.grownBy w' none) : Mo (kz κ w.heap.size) L w' v := h.step (Fr.of_grown g) (fun _ hb => kz_lt hb)

/-- One's place in the list. -/
theorem find_ent (L : List Ent) (key : ByteArray) : (∀ x ∈ L, x.key ≠ key) ∨ ∃ l1 e l2, L = l1 ++ e :: l2 ∧ e.key = key ∧ ∀ x ∈ l1, x.key ≠ key := by
  induction L with
  | nil => exact Or.inl (by simp)
  | cons a t ih =>
    by_cases h : a.key = key
    · exact Or.inr ⟨[], a, t, rfl, h, by simp⟩
    · rcases ih with ih | ⟨l1, e, l2, rfl, he, hl⟩
      · exact Or.inl (fun x hx => by rcases List.mem_cons.1 hx with rfl | hx; exact h; exact ih x hx)
      · exact Or.inr ⟨a :: l1, e, l2, rfl, he, fun x hx => by rcases List.mem_cons.1 hx with rfl | hx; exact h; exact hl x hx⟩
end Go.Proofs.Ybulkdbks

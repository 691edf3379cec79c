import Derived.Test.YbulkdbksKept
namespace Go.Proofs.Ybulkdbks
open Go Go.RowKit

/-- A new answer that is expected. -/
def newEnt (eb ab : Nat) (key : ByteArray) (now : Int) : Ent := ⟨eb, ab, key, 0, false, now, .slice none 0 0⟩

/-- The list behind an add. -/
def addL (N : Nat) (e : Ent) (L : List Ent) : List Ent := (e :: L).take (fitK N (fun k => heldOf ((e :: L).take k)) (L.length + 1))

theorem add_new {w : World} {κ : Nat → Nat} {nb mb N : Nat} {K F now : Int} {L : List Ent} {key : ByteArray} (I : Inv w κ nb mb (N : Int) K F L) (hl : L.length ≤ 900) (hheld : heldOf L ≤ 90000) (hN : N ≤ 100) (hk : key.size ≤ 100) (hnk : ∀ x ∈ L, x.key ≠ key) (h0 : 0 ≤ now) (h1 : now < 64) :
    Calls Yba.prog 32 #[ptr nb 112, ptr w.heap.size 0] (w.alloc (.cells #[.string key, .slice none 0 0, .bool false, .int .i64 now] 105)) fun r w' => r = .returned (.tuple #[]) ∧
      ∃ κ', (∀ b, b < w.heap.size → κ' b = κ b) ∧ Inv w' κ' nb mb (N : Int) K F (addL N (newEnt (w.heap.size + 1) w.heap.size key now) L) ∧ Fr κ w w' := by
  have I1 : Inv (w.alloc (.cells #[.string key, .slice none 0 0, .bool false, .int .i64 now] 105)) (kset κ w.heap.size 3) nb mb (N : Int) K F L :=
    I.grow (by simp) (fun b hb _ => kset_lt hb) (fun b hb _ => heap_old hb)
  refine (add_any (e := newEnt (w.heap.size + 1) w.heap.size key now) I1 hl hheld hN (by simp [newEnt]) (kset_eq _ _ _) heap_new (Or.inl ⟨rfl, rfl⟩) hk (Nat.zero_le _) ⟨h0, h1⟩ (fun x hx h => ?_) hnk).mono ?_
  · have := (I.ents x hx).al
    have h' : x.ab = w.heap.size := h
    omega
  · rintro r w' ⟨rfl, I2, fr⟩
    refine ⟨rfl, _, fun b hb => ?_, I2, ?_⟩
    · rw [kset_lt (by show b < w.heap.size + 1; omega), kset_lt hb]
    · exact ⟨fr.os, fr.tape, fr.output, Nat.le_trans (by simp) fr.size, fun b hb k1 => (fr.block b (by simp; omega) (by rw [kset_lt hb]; exact k1)).trans (heap_old hb)⟩
end Go.Proofs.Ybulkdbks

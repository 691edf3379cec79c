import Derived.Test.YbulkdbksSt
namespace Go.Proofs.Ybulkdbks
open Go Go.RowKit

/-- The element at place q, or nil. -/
def elP (L : List Ent) (q : Nat) : Value := match L[q]? with
  | some e => ptr e.eb 0
  | none => .pointer none

theorem elP_in {L : List Ent} {q : Nat} (h : q < L.length) : elP L q = ptr (L[q]).eb 0 := by unfold elP; rw [List.getElem?_eq_getElem h]
theorem elP_out {L : List Ent} {q : Nat} (h : L.length ≤ q) : elP L q = .pointer none := by unfold elP; rw [List.getElem?_eq_none h]

theorem front_el {w : World} {κ : Nat → Nat} {nb mb : Nat} {N K F : Int} {L : List Ent} (I : Inv w κ nb mb N K F L) : Calls Yba.prog 23 #[ptr nb 117] w fun r w' => r = .returned (elP L 0) ∧ w' = w := by
  cases L with
  | nil => exact front_nil nb 117 w I.cl
  | cons x t =>
    rcases I.ring with ⟨h, _⟩ | h
    · cases h
    · have hx := h.1
      obtain ⟨j1, j2⟩ := hx
      simp only [nextIs, prevIs, off_root] at j1 j2
      have nx : x.eb ≠ nb := fun h => nb_not_el I (by rw [← h]; simp)
      rw [off_el nx] at j1
      exact front_any nb 117 _ _ w I.cl (by rw [List.length_cons]; omega) j1

theorem next_el {w : World} {κ : Nat → Nat} {nb mb : Nat} {N K F : Int} {L : List Ent} (I : Inv w κ nb mb N K F L) (q : Nat) (hq : q < L.length) : Calls Yba.prog 24 #[ptr (L[q]).eb 0] w fun r w' => r = .returned (elP L (q + 1)) ∧ w' = w := by
  have e1 : L = L.take q ++ L[q] :: L.drop (q + 1) := by rw [List.getElem_cons_drop hq, List.take_append_drop]
  generalize he : L[q] = e at *
  have I' := I
  rw [e1] at I'
  obtain ⟨A, p, s, B, hA, hB, hC, hp, hs, hpe, hse⟩ := I'.around
  obtain ⟨k1, k2, k3, k4⟩ := ring_at hC
  have E := I'.ents e (by simp)
  have ne : e.eb ≠ nb := fun h => nb_not_el I' (by rw [← h]; simp)
  simp only [nextIs, prevIs, off_el ne] at k1 k2 k3 k4
  by_cases h : q + 1 < L.length
  · rw [elP_in h]
    have hd : L.drop (q + 1) = L[q + 1] :: L.drop (q + 1 + 1) := (List.getElem_cons_drop h).symm
    rw [hd, List.map_cons, List.cons_append] at hB
    injection hB with hB _
    subst hB
    have hm : L[q + 1] ∈ L := List.getElem_mem h
    have ns : L[q + 1].eb ≠ nb := fun hh => nb_not_el I (by rw [← hh]; exact List.mem_map.2 ⟨_, hm, rfl⟩)
    rw [off_el ns] at k3
    exact next_any nb 117 e.eb _ 0 w k3 E.c2 (I.ents _ hm).we I.wn ns
  · rw [elP_out (by omega)]
    have hd : L.drop (q + 1) = [] := List.drop_eq_nil_of_le (by omega)
    rw [hd] at hB
    simp at hB
    obtain ⟨rfl, _⟩ := hB
    rw [off_root] at k3
    exact next_last nb 117 e.eb w k3 E.c2
end Go.Proofs.Ybulkdbks

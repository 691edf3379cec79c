import Derived.Test.YbulkdbksPq
import Derived.Deep.MidRow
namespace Go.Proofs.Ybulkdbks
open Go Go.RowKit

theorem grown_setCells (b : Nat) : ∀ (vs : List Value) (o : Nat) (w : World), w.grownBy (w.setCells b o vs) (some b)
  | [], _, _ => ⟨rfl, rfl, rfl, Nat.le_refl _, fun _ _ _ => rfl⟩
  | v :: r, o, w => grown_trans (grown_set w b o v) (grown_setCells b r (o + 1) (w.setCell ⟨b, o, none⟩ v))

theorem setCells_obj (b : Nat) {t : TypeId} : ∀ (vs : List Value) (o : Nat) (w : World) (C : Array Value), w.heap[b]? = some (.cells C t (0, 0)) → ∃ C', (w.setCells b o vs).heap[b]? = some (.cells C' t (0, 0)) ∧ C'.size = C.size
  | [], _, _, C, h => ⟨C, h, rfl⟩
  | v :: r, o, w, C, h => by
    obtain ⟨C', h1, h2⟩ := setCells_obj b r (o + 1) (w.setCell ⟨b, o, none⟩ v) _ (heap_set h v)
    exact ⟨C', h1, by rw [h2]; simp⟩

theorem setCells_all {b : Nat} {t : TypeId} {w : World} {C : Array Value} (vs : Array Value) (h : w.heap[b]? = some (.cells C t (0, 0))) (hs : vs.size = C.size) : (w.setCells b 0 vs.toList).heap[b]? = some (.cells vs t (0, 0)) := by
  obtain ⟨C', h1, h2⟩ := setCells_obj b vs.toList 0 w C h
  have hin := World.cell?_setCells_in b vs.toList 0 w (fun j hj => by
    unfold World.cell?
    rw [h]
    simp at hj ⊢
    have : j < C.size := by omega
    simp [this])
  have : C' = vs := by
    apply Array.ext
    · omega
    · intro i hi1 hi2
      have hc := hin i (by simpa using hi2)
      unfold World.cell? at hc
      simp only [h1] at hc
      simp at hc
      obtain ⟨_, hc⟩ := Array.getElem?_eq_some_iff.1 hc
      exact hc
  rw [h1, this]

theorem there_new {w : World} {C : Array Value} {t : TypeId} {n : Nat} (h : C.size = n) : (w.alloc (.cells C t)).there w.heap.size 0 n := fun j hj => by
  have hj' : j < C.size := by omega
  refine ⟨?_, fz_new⟩
  rw [Nat.zero_add, cell_new (v := C[j]) (Array.getElem?_eq_getElem hj')]
  rfl

theorem qc_all (ao : Option Addr) (n c : Nat) : (qc (.slice ao n c)).all (·.oneCell') = true := by
  rw [Array.all_eq_true_iff_forall_mem]
  intro v hv
  simp [qc] at hv
  rcases hv with rfl | rfl | rfl | rfl <;> rfl
end Go.Proofs.Ybulkdbks

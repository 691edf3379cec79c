import Derived.Test.YbulkdbmwRows
import Derived.WalkKit
import Derived.ProofKit
import Derived.WalkSpells
import Derived.Deep.QuietTactic
import Derived.BigQuiet
import Derived.BigGuardPart
import Derived.Deep.LoopGhost
import Derived.Deep.DeepCutAuto
import Derived.Laws.OwnMore
import Derived.Sort.Row
import Derived.Sort.AssemblyPlain
namespace Go.Proofs.Ybulkdbmw
open Go Go.RowKit Go.Sort

abbrev encU : Int → Value := fun x => Value.int .u32 x

theorem gtr {a b c : World} {row : Option Nat} (h : a.grownBy b row) (k : b.grownBy c row) : a.grownBy c row :=
  ⟨k.os.trans h.os, k.tape.trans h.tape, k.output.trans h.output, Nat.le_trans h.size k.size, fun i hi hne => (k.block i (Nat.lt_of_lt_of_le hi h.size) hne).trans (h.block i hi hne)⟩
theorem grf (w : World) (row : Option Nat) : w.grownBy w row := ⟨rfl, rfl, rfl, Nat.le_refl _, fun _ _ _ => rfl⟩

/-- The cells of a row hold d; all that has turned since w0 lies in that block, or is new. -/
structure Sw (w0 w : World) (blk off : Nat) (d : Array Int) : Prop where
  hd : ∀ j, j < d.size → w.cell? ⟨blk, off + j, none⟩ = some (encU d[j]!)
  fz : ∀ j, w.frozen? ⟨blk, j, none⟩ = false
  gr : w0.grownBy w (some blk)

theorem Sw.dN {w0 w : World} {blk off : Nat} {d : Array Int} (h : Sw w0 w blk off d) (n : Nat) : Sw w0 (w.drewN n) blk off d := ⟨h.hd, h.fz, ⟨h.gr.os, h.gr.tape, h.gr.output, h.gr.size, h.gr.block⟩⟩
theorem Sw.dr {w0 w : World} {blk off : Nat} {d : Array Int} (h : Sw w0 w blk off d) : Sw w0 w.drew blk off d := ⟨h.hd, h.fz, ⟨h.gr.os, h.gr.tape, h.gr.output, h.gr.size, h.gr.block⟩⟩

theorem Sw.same {w0 w w' : World} {blk off : Nat} {d : Array Int} (h : Sw w0 w blk off d) (hh : w'.heap = w.heap) (ho : w'.os = w.os) (ht : w'.tape = w.tape) (hu : w'.output = w.output) : Sw w0 w' blk off d := by
  refine ⟨fun j hj => ?_, fun j => ?_, ⟨ho.trans h.gr.os, ht.trans h.gr.tape, hu.trans h.gr.output, by rw [hh]; exact h.gr.size, fun b hb hne => by rw [hh]; exact h.gr.block b hb hne⟩⟩
  · have := h.hd j hj; unfold World.cell? at this ⊢; rw [hh]; exact this
  · have := h.fz j; unfold World.frozen? at this ⊢; rw [hh]; exact this

theorem set_grown (w : World) (b i : Nat) (v : Value) : w.grownBy (w.setCell ⟨b, i, none⟩ v) (some b) :=
  ⟨rfl, rfl, rfl, by simp [World.setCell], fun i _ hne => Below.heap_setCell _ _ _ _ (by simpa using hne)⟩

theorem cell_set_some {w : World} {b i j : Nat} {u : Value} (v : Value) (h : w.cell? ⟨b, j, none⟩ = some u) : ∃ v', (w.setCell ⟨b, i, none⟩ v).cell? ⟨b, j, none⟩ = some v' := by
  by_cases e : i = j
  · subst e; exact ⟨_, World.cell?_setCell_same _ _ _ h⟩
  · exact ⟨u, (World.cell?_setCell_other _ _ _ _ (fun hh => e (by injection hh))).trans h⟩

theorem swp_get (d : Array Int) (i j k : Nat) (hi : i < d.size) (hj : j < d.size) : (swp d i j)[k]! = if k = j then d[i]! else if k = i then d[j]! else d[k]! := by
  unfold swp
  by_cases h1 : k = j
  · subst h1; rw [if_pos rfl, getElem!_set_same _ _ _ (by simpa using hj)]
  · rw [if_neg h1, getElem!_set_other _ _ _ _ h1]
    by_cases h2 : k = i
    · subst h2; rw [if_pos rfl, getElem!_set_same _ _ _ hi]
    · rw [if_neg h2, getElem!_set_other _ _ _ _ h2]

theorem swp_size (d : Array Int) (i j : Nat) : (swp d i j).size = d.size := by simp [swp]

/-- 'data[i], data[j] = data[j], data[i]'. -/
theorem Sw.swp {w0 w : World} {blk off i j : Nat} {d : Array Int} (h : Sw w0 w blk off d) (hi : i < d.size) (hj : j < d.size) :
    Sw w0 ((w.setCell ⟨blk, off + i, none⟩ (encU d[j]!)).setCell ⟨blk, off + j, none⟩ (encU d[i]!)) blk off (Sort.swp d i j) := by
  refine ⟨fun k hk => ?_, fun k => by rw [World.frozen?_setCell, World.frozen?_setCell]; exact h.fz k, gtr h.gr (gtr (set_grown _ _ _ _) (set_grown _ _ _ _))⟩
  rw [swp_size] at hk
  rw [swp_get d i j k hi hj]
  by_cases h1 : k = j
  · subst h1
    rw [if_pos rfl]
    by_cases h2 : i = k
    · subst h2
      exact World.cell?_setCell_same _ _ _ (World.cell?_setCell_same _ _ _ (h.hd i hi))
    · exact World.cell?_setCell_same _ _ _ ((World.cell?_setCell_other _ _ _ _ (fun e => h2 (by injection e with _ e; omega))).trans (h.hd k hj))
  · rw [if_neg h1, World.cell?_setCell_other _ _ _ _ (fun e => h1 (by injection e with _ e; omega))]
    by_cases h2 : k = i
    · subst h2
      rw [if_pos rfl]
      exact World.cell?_setCell_same _ _ _ (h.hd k hi)
    · rw [if_neg h2, World.cell?_setCell_other _ _ _ _ (fun e => h2 (by injection e with _ e; omega))]
      exact h.hd k hk

theorem isNaN_u (x : Int) (w : World) : Calls Yba.prog 78 #[.int .u32 x] w fun e w' => e = .returned (.bool false) ∧ w' = w := by
  go_enter Yba.func78, Yba.ntmps78
  go_wp2
  go_ret
  exact ⟨by simp, rfl⟩

theorem less_u (x y : Int) (w : World) : Calls Yba.prog 52 #[.int .u32 x, .int .u32 y] w fun e w' => e = .returned (.bool (ltInt x y)) ∧ w' = w := by
  go_enter Yba.func52, Yba.ntmps52
  go_wp2_with (go_at_call 78; refine (isNaN_u _ _).mono ?_; rintro e w' ⟨rfl, rfl⟩)
  go_ret
  exact ⟨rfl, rfl⟩
end Go.Proofs.Ybulkdbmw

import Derived.Test.YbulkdbmwLs
import Derived.Test.YbulkdbmwBx
import Derived.Test.YbulkdbmwSort
namespace Go.Proofs.Ybulkdbmw
open Go Go.RowKit Go.Sort Go.Shelf Go.Lib

/-- The other's list, as it is taken over. -/
def othersOf (b o : Hd) (lo : List Int) : List Int := if o.rm = true ∧ b.rm = false ∧ o.av = b.av ∧ o.sq = b.sq then notIn o lo else lo
def extraOf (b o : Hd) : List Int := if o.rm = false ∧ (¬ (o.av = b.av ∧ o.sq = b.sq) ∨ ¬ (o.tg = b.tg ∧ o.ti = b.ti ∧ o.tc = b.tc)) then o.hs else []
def srt (L : List Int) : Array Int := Sort.sort ltInt L.toArray
def cS (L : List Int) : List Int := compactUpTo (srt L) (srt L).size
def mgl (b o : Hd) (lb lo : List Int) : List Int := cS (lb ++ othersOf b o lo ++ extraOf b o)

theorem srt_size (L : List Int) : (srt L).size = L.length := by unfold srt; rw [sort_size]; simp
theorem cS_len (L : List Int) : (cS L).length ≤ L.length := by unfold cS; have := compact_len (srt L); rw [srt_size] at this ⊢; exact this
theorem others_len (b o : Hd) (lo : List Int) : (othersOf b o lo).length ≤ lo.length := by
  unfold othersOf
  split
  · exact notIn_len _ _
  · exact Nat.le_refl _
theorem extra_len (b o : Hd) : (extraOf b o).length ≤ 6 := by
  unfold extraOf
  split
  · exact Nat.le_refl 6
  · exact Nat.zero_le _
theorem mgl_len (b o : Hd) (lb lo : List Int) : (mgl b o lb lo).length ≤ lb.length + lo.length + 6 := by
  unfold mgl
  refine Nat.le_trans (cS_len _) ?_
  rw [List.length_append, List.length_append]
  have := others_len b o lo
  have := extra_len b o
  omega

theorem Pl.fb {w w' : World} {v : Value} {l : List Int} {r : Option Nat} (h : Pl w v l) (g : w.grownBy w' r) (hr : ∀ k, v.ownBlock = some k → r ≠ some k) : Pl w' v l := by
  rcases h with h | ⟨b, off, cap, rfl, hc, hb, hd⟩
  · exact Or.inl h
  · exact Or.inr ⟨b, off, cap, rfl, hc, Nat.lt_of_lt_of_le hb g.size, fun j hj => (World.cell?_of_block (g.block b hb (fun e => hr b rfl e.symm))).trans (hd j hj)⟩

/-- The slice holds the list, sorted. -/
def Srt (w : World) (v : Value) (L : List Int) : Prop := (v = .slice none 0 0 ∧ L = []) ∨ ∃ g cap, v = .slice (some ⟨g, 0, none⟩) L.length cap ∧ g < w.heap.size ∧ L.length ≤ cap ∧ Holds encU w g 0 (srt L)

theorem sort_ow (w : World) (base : Nat) (v : Value) (L : List Int) (h : Ow w base v L) (hb : L.length < 1000000) :
    Calls Yba.prog 15 #[v] w fun e w' => e = .returned (.tuple #[]) ∧ Srt w' v L ∧ w.grownBy w' v.ownBlock := by
  rcases h.2 with ⟨rfl, h0⟩ | ⟨g, cap, cur, rfl, hbg, hg, hn, hm, hs, ht⟩
  · obtain rfl := List.length_eq_zero_iff.1 h0
    refine (sort_nil none 0 w).mono ?_
    rintro e w' ⟨rfl, rfl⟩
    exact ⟨rfl, Or.inl ⟨rfl, rfl⟩, grf _ _⟩
  · have hS : Sw w w g 0 L.toArray := by
      refine ⟨fun j hj => ?_, fun j => ?_, grf _ _⟩
      · have := World.ownsRow.cells h (g := g) rfl j (encU L[j]!) (by rw [List.getElem?_map, getElem!_pos L j (by simpa using hj), List.getElem?_eq_getElem (by simpa using hj)]; rfl)
        rw [show (⟨g, 0, none⟩ : Addr).add j = ⟨g, 0 + j, none⟩ by unfold Addr.add; split <;> simp_all] at this
        simpa using this
      · unfold World.frozen?
        rw [show w.heap[(⟨g, j, none⟩ : Addr).block]? = _ from hg]
        simp
    have hlt : g < w.heap.size := (Array.getElem?_eq_some_iff.1 hg).1
    have := sort_u g 0 cap L.toArray w w hS hlt (by simpa using hb)
    rw [List.size_toArray] at this
    refine this.mono ?_
    rintro e w' ⟨rfl, hS'⟩
    exact ⟨rfl, Or.inr ⟨g, cap, rfl, Nat.lt_of_lt_of_le hlt hS'.gr.size, hn, fun j hj => ⟨hS'.hd j hj, hS'.fz _⟩⟩, hS'.gr⟩

theorem compact_srt (w : World) (v : Value) (L : List Int) (h : Srt w v L) (hb : L.length < 1000000) :
    Calls Yba.prog 34 #[v] w fun e w' => ∃ v', e = .returned v' ∧ Pl w' v' (cS L) ∧ w.grownBy w' v.ownBlock ∧ v'.ownBlock = v.ownBlock := by
  rcases h with ⟨rfl, rfl⟩ | ⟨g, cap, rfl, hlt, hc, hH⟩
  · refine (compact_nil none 0 w).mono ?_
    rintro e w' ⟨rfl, rfl⟩
    refine ⟨_, rfl, Or.inl ⟨rfl, ?_⟩, grf _ _, rfl⟩
    exact List.length_eq_zero_iff.1 (Nat.le_zero.1 (cS_len []))
  · have := compact_u g 0 cap (srt L) w hH hlt (by rw [srt_size]; exact hb) (by rw [srt_size]; exact hc)
    rw [srt_size] at this
    refine this.mono ?_
    rintro e w' ⟨v', rfl, hp, hg, ho⟩
    refine ⟨v', rfl, ?_, hg, ho⟩
    unfold cS
    rw [srt_size]
    exact hp
end Go.Proofs.Ybulkdbmw

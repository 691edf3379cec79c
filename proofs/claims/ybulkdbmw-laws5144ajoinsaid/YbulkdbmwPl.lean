import Derived.Test.YbulkdbmwLay
import Derived.Test.YbulkdbmwNw
import Derived.Laws.AppendOwnNone
namespace Go.Proofs.Ybulkdbmw
open Go Go.RowKit Go.Sort Go.Shelf Go.Lib

/-- The slice v holds the list l. -/
def Pl (w : World) (v : Value) (l : List Int) : Prop :=
  (v = .slice none 0 0 ∧ l = []) ∨ ∃ b off cap, v = .slice (some ⟨b, off, none⟩) l.length cap ∧ l.length ≤ cap ∧ b < w.heap.size ∧ ∀ j, j < l.length → w.cell? ⟨b, off + j, none⟩ = some (encU l[j]!)

theorem cell_kind {w : World} {a : Addr} {v : Value} (h : w.cell? a = some v) (ha : a.spot = none) : ∃ cs T f, w.heap[a.block]? = some (.cells cs T f) := by
  unfold World.cell? at h
  rw [ha] at h
  cases hb : w.heap[a.block]? with
  | none => rw [hb] at h; simp at h
  | some o =>
    cases o with
    | cells cs T f => exact ⟨cs, T, f, rfl⟩
    | _ => rw [hb] at h; simp at h

theorem Pl.fr {w w' : World} {v : Value} {l : List Int} {r : Option Nat} (h : Pl w v l) (g : w.grownBy w' r) (hr : ∀ k, r = some k → ∀ cs T f, w.heap[k]? ≠ some (.cells cs T f)) : Pl w' v l := by
  rcases h with h | ⟨b, off, cap, rfl, hc, hb, hd⟩
  · exact Or.inl h
  · refine Or.inr ⟨b, off, cap, rfl, hc, Nat.lt_of_lt_of_le hb g.size, fun j hj => ?_⟩
    have h0 := hd j hj
    refine (World.cell?_of_block (g.block b hb (fun e => ?_))).trans h0
    obtain ⟨cs, T, f, hk⟩ := cell_kind h0 rfl
    exact hr b e.symm cs T f hk

theorem Pl.f0 {w w' : World} {v : Value} {l : List Int} (h : Pl w v l) (g : w.grownBy w' none) : Pl w' v l := h.fr g (fun _ e => by cases e)
theorem Pl.fd {w : World} {v : Value} {l : List Int} (h : Pl w v l) (n : Nat) : Pl (w.drewN n) v l := h.f0 (gD (grf w none) n)

theorem Pl.nil (w : World) : Pl w (.slice none 0 0) [] := Or.inl ⟨rfl, rfl⟩

theorem Pl.len {w : World} {v : Value} {l : List Int} (h : Pl w v l) : ∃ a c, v = .slice a l.length c := by
  rcases h with ⟨rfl, rfl⟩ | ⟨b, off, cap, rfl, _⟩
  · exact ⟨none, 0, rfl⟩
  · exact ⟨_, _, rfl⟩

/-- Ours: it may be appended to. -/
def Ow (w : World) (base : Nat) (v : Value) (l : List Int) : Prop := w.ownsRow base 31 1 v l.length (l.map encU)

theorem Ow.nil (w : World) (base : Nat) : Ow w base (.slice none 0 0) [] := World.ownsRow_nil w base 31 1

theorem Ow.pl {w : World} {base : Nat} {v : Value} {l : List Int} (h : Ow w base v l) : Pl w v l := by
  rcases h.2 with ⟨rfl, h0⟩ | ⟨g, cap, cur, rfl, hb, hg, hn, hm, hs, ht⟩
  · exact Or.inl ⟨rfl, List.length_eq_zero_iff.1 h0⟩
  · refine Or.inr ⟨g, 0, cap, rfl, hn, (Array.getElem?_eq_some_iff.1 hg).1, fun j hj => ?_⟩
    have := World.ownsRow.cells h (g := g) rfl j (encU l[j]!) (by rw [List.getElem?_map, getElem!_pos l j hj, List.getElem?_eq_getElem hj]; rfl)
    rw [show (⟨g, 0, none⟩ : Addr).add j = ⟨g, 0 + j, none⟩ by unfold Addr.add; split <;> simp_all] at this
    exact this

theorem Ow.fr {w w' : World} {base : Nat} {v : Value} {l : List Int} {r : Option Nat} (h : Ow w base v l) (g : w.grownBy w' r) (hr : ∀ k, r = some k → ∀ cs T f, w.heap[k]? ≠ some (.cells cs T f)) : Ow w' base v l := by
  refine World.ownsRow.kept h g ?_
  rcases h.2 with ⟨rfl, h0⟩ | ⟨gg, cap, cur, rfl, hb, hg, rest⟩
  · exact Or.inl rfl
  · exact Or.inr (fun e => hr gg e.symm cur 31 (0, 0) hg)
theorem Ow.f0 {w w' : World} {base : Nat} {v : Value} {l : List Int} (h : Ow w base v l) (g : w.grownBy w' none) : Ow w' base v l := h.fr g (fun _ e => by cases e)

theorem info31 : (Yba.prog.info? 31).map (fun i => (i.zero, i.size, i.bytes)) = some (some (.int .u32 0), 1, 4) := by kernel_rfl

/-- 'append(v, x...)'. -/
theorem app_u {w : World} {ops : Array Oper} {rest : List Oper} {o : Oper} {a : Act} {Q : Exit → Act → World → Prop} (hgd : o.guard = none) (s x : Operand)
    (ho : o.op = .call { callee := .builtin .append, args := #[s, x], argTypes := #[37, 37] })
    (base : Nat) (v xv : Value) (l m : List Int) (hs : a.eval s = v) (hx : a.eval x = xv) (hown : Ow w base v l) (hpl : Pl w xv m) (hsz : l.length + m.length < 1000000) (hbase : base ≤ w.heap.size)
    (h : ∀ v' w', Ow w' base v' (l ++ m) → w.grownBy w' v.ownBlock → (∀ k, v.ownBlock = some k → base ≤ k) → wpList Yba.prog ops Q rest (a.put o.dst v') w') : wpList Yba.prog ops Q (o :: rest) a w := by
  obtain ⟨i, hi, hzi⟩ : ∃ i, Yba.prog.info? 31 = some i ∧ (i.zero, i.size, i.bytes) = (some (.int .u32 0), 1, 4) := by
    have := info31
    cases hh : Yba.prog.info? 31 with
    | none => rw [hh] at this; simp at this
    | some i => rw [hh] at this; exact ⟨i, rfl, by simpa using this⟩
  simp only [Prod.mk.injEq] at hzi
  have hob : ∀ k, v.ownBlock = some k → base ≤ k := fun k hk => (World.ownsRow.lt hown k hk).1
  rcases hpl with ⟨rfl, rfl⟩ | ⟨b, off, cap, rfl, hc, hb, hd⟩
  · exact wpList_append_own_none hgd s x 37 ho base 31 i 1 Yba.underlying37 hi v _ _ hs hown hx (h v w (by rw [List.append_nil]; exact hown) (grf _ _) hob)
  · refine wpList_append_own w hgd s x 37 ho base 31 i (.int .u32 0) 1 4 Yba.underlying37 hi hzi.1 hzi.2.1 hzi.2.2 rfl (by decide) v _ _ hs hown ⟨b, off, none⟩ m.length cap (m.map encU) hx (by simp) (fun j u hu => ?_) (fun u hu => ?_) (by unfold maxLen; omega) (by omega) hbase ?_
    · rw [List.getElem?_map] at hu
      cases hj : m[j]? with
      | none => rw [hj] at hu; simp at hu
      | some y =>
        rw [hj] at hu
        obtain ⟨hj1, hj2⟩ := List.getElem?_eq_some_iff.1 hj
        have := hd j hj1
        rw [getElem!_pos m j hj1, hj2] at this
        rw [show (⟨b, off, none⟩ : Addr).add j = ⟨b, off + j, none⟩ by unfold Addr.add; split <;> simp_all]
        rw [this]; exact hu
    · obtain ⟨y, _, rfl⟩ := List.mem_map.1 hu
      rfl
    · intro v' w' h2 h3 _
      refine h v' w' ?_ h3 hob
      unfold Ow
      rw [List.length_append, List.map_append]
      exact h2

theorem equal_nil (a a' : Option Addr) (n m c c' : Nat) (w : World) (h : n = 0 ∨ m = 0) (hn : n < 1000000) (hm : m < 1000000) :
    Calls Yba.prog 16 #[.slice a n c, .slice a' m c'] w fun e w' => e = .returned (.bool (decide (n = m))) ∧ w' = w := by
  by_cases e : n = m
  · subst e
    have h0 : n = 0 := by omega
    subst h0
    go_enter Yba.func16, Yba.ntmps16
    go_wp2
    refine wp_loop_rounds 1 ?_
    rw [rounds_succ]
    go_wp2
    go_ret
    exact ⟨by simp, rfl⟩
  · have e' : ¬ (n : Int) = (m : Int) := by omega
    go_enter Yba.func16, Yba.ntmps16
    go_wp2
    go_ret
    exact ⟨by simp [e], rfl⟩

theorem allEq_dec (xs ys : List Int) : Lib.allEq (fun x y => decide (x = y)) xs ys = decide (xs = ys) := by
  induction xs generalizing ys with
  | nil => cases ys <;> simp [Lib.allEq]
  | cons x xs ih =>
    cases ys with
    | nil => simp [Lib.allEq]
    | cons y ys =>
      rw [Lib.allEq, ih, Bool.eq_iff_iff]
      simp

theorem equal_u (x y : Value) (lx ly : List Int) (w : World) (hx : Pl w x lx) (hy : Pl w y ly) (bx : lx.length < 1000000) (byy : ly.length < 1000000) :
    Calls Yba.prog 16 #[x, y] w fun e w' => e = .returned (.bool (decide (lx = ly))) ∧ ∃ q, w' = w.drewN q := by
  have dd : ∀ {l m : List Int}, l = [] ∨ m = [] → decide (l.length = m.length) = decide (l = m) := fun {l m} h => by
    rcases h with rfl | rfl
    · cases m <;> simp
    · cases l <;> simp
  rcases hx with ⟨rfl, rfl⟩ | ⟨b, off, cap, rfl, hc, hb, hd⟩
  · obtain ⟨a', c', rfl⟩ := hy.len
    refine (equal_nil none a' 0 ly.length 0 c' w (Or.inl rfl) (by omega) byy).mono ?_
    rintro e w' ⟨rfl, rfl⟩
    exact ⟨by rw [← dd (Or.inl rfl)]; rfl, 0, rfl⟩
  · rcases hy with ⟨rfl, rfl⟩ | ⟨b', off', cap', rfl, hc', hb', hd'⟩
    · refine (equal_nil _ none lx.length 0 cap 0 w (Or.inr rfl) bx (by omega)).mono ?_
      rintro e w' ⟨rfl, rfl⟩
      exact ⟨by rw [← dd (Or.inr rfl)]; rfl, 0, rfl⟩
    · have := AnyE.slices_Equal Yba.equal16 (Value.int .u32) (fun x y => decide (x = y)) (NeqAt.intD _ _ _) b off lx.length cap b' off' ly.length cap' lx ly w (Nat.le_refl _) (Nat.le_refl _) (by omega) (by omega) hd hd'
      rw [List.take_length, List.take_length, allEq_dec] at this
      exact this

theorem contains_u (b off c : Nat) (zs : List Int) (x : Int) (w : World) (hb : zs.length < 1000000) (hc : ∀ j, j < zs.length → w.cell? ⟨b, off + j, none⟩ = some (encU zs[j]!)) :
    Calls Yba.prog 35 #[.slice (some ⟨b, off, none⟩) zs.length c, .int .u32 x] w fun e w' => e = .returned (.bool (decide (x ∈ zs))) ∧ w' = w := by
  have := AnyE.slices_Contains Yba.contains35 (Value.int .u32) (fun x y => decide (x = y)) (EqlAt.intD _ _ _) b off zs.length c zs x w (Nat.le_refl _) (by omega) hc
  rw [List.take_length, show (zs.any fun y => decide (x = y)) = decide (x ∈ zs) by rw [Bool.eq_iff_iff]; simp] at this
  exact this
end Go.Proofs.Ybulkdbmw

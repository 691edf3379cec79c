import Derived.Test.YbulkdbmwAd1
import Derived.Test.YbulkdbmwIter
namespace Go.Proofs.Ybulkdbmw
open Go Go.RowKit Go.Sort Go.Shelf Go.Lib

theorem upd_same (F : Ent) (i : Nat) (x : Hd × List Int) (h : F i = some x) : upd F i x = F := by
  funext j
  unfold upd
  split
  · rename_i e; rw [e, h]
  · rfl

theorem ldg_u {w : World} {ops : Array Oper} {rest : List Oper} {o : Oper} {a : Act} {Q : Exit → Act → World → Prop} (hw : Region.wanted o (yielded ops a.tmps) = true) (x : Operand) (ho : o.op = .load 39 x) (b : Nat) (hx : a.eval x = .pointer (some ⟨b, 0, none⟩)) {h : Hd} {pd : Value} (hb : Bx w b h pd)
    (k : wpList Yba.prog ops Q rest (a.put o.dst (h.val pd)) w) : wpList Yba.prog ops Q (o :: rest) a w :=
  wpList_step fun K hK => by
    rw [if_pos hw]
    exact wp_load_row 39 x ho b hx 39 _ (0, 0) _ hb Yba.underlying39 rfl (info39 _ rfl) (hK _ _ k)

theorem info9 : (Yba.prog.info? 9).map (fun i => (i.zero, i.size, i.bytes)) = some (some (.string ⟨#[]⟩), 1, 16) := by kernel_rfl

theorem apps_u {w : World} {ops : Array Oper} {rest : List Oper} {o : Oper} {a : Act} {Q : Exit → Act → World → Prop} (hgd : o.guard = none) (s x : Operand)
    (ho : o.op = .call { callee := .builtin .append, args := #[s, x], argTypes := #[65, 65] })
    (b : Nat) (nm : ByteArray) (hs : a.eval s = .slice none 0 0) (hx : a.eval x = .slice (some ⟨b, 0, none⟩) 1 1) (c0 : w.cell? ⟨b, 0, none⟩ = some (.string nm))
    (h : ∀ v' w', w'.ownsRow w.heap.size 9 1 v' 1 [.string nm] → w.grownBy w' none → wpList Yba.prog ops Q rest (a.put o.dst v') w') : wpList Yba.prog ops Q (o :: rest) a w := by
  obtain ⟨i, hi, hzi⟩ : ∃ i, Yba.prog.info? 9 = some i ∧ (i.zero, i.size, i.bytes) = (some (.string ⟨#[]⟩), 1, 16) := by
    have := info9
    cases hh : Yba.prog.info? 9 with
    | none => rw [hh] at this; simp at this
    | some i => rw [hh] at this; exact ⟨i, rfl, by simpa using this⟩
  simp only [Prod.mk.injEq] at hzi
  refine wpList_append_own w hgd s x 65 ho w.heap.size 9 i _ 1 16 Yba.underlying65 hi hzi.1 hzi.2.1 hzi.2.2 rfl (by decide) (.slice none 0 0) 0 [] hs (World.ownsRow_nil _ _ _ _) ⟨b, 0, none⟩ 1 1 [.string nm] hx (by simp) (fun j u hu => ?_) (fun u hu => ?_) (by unfold maxLen; omega) (by omega) (Nat.le_refl _) (fun v' w' h2 h3 _ => h v' w' h2 h3)
  · match j, hu with
    | 0, hu => exact c0.trans hu
    | n + 1, hu => simp at hu
  · rcases List.mem_cons.1 hu with rfl | hu
    · rfl
    · cases hu

theorem grown_grow (w : World) (os : Array Obj) : w.grownBy (grow w os) none := ⟨rfl, rfl, rfl, by simp, fun i hi _ => heap_grow_old w os hi⟩
theorem putRow_grownS (w : World) (blk off : Nat) (d : Array (List UInt8)) (q : Nat) : w.grownBy (putRow encStr (Sort.ahead w q) blk off d) (some blk) := by
  refine ⟨rfl, rfl, rfl, by simp [Sort.ahead], fun i _ hi => ?_⟩
  show (mapBlock _ _ _).heap[i]? = _
  unfold mapBlock
  have : ¬ blk = i := fun e => hi (by rw [e])
  simp [Array.getElem?_modify, this, Sort.ahead]

theorem sortN_u (i base : Nat) (v : Value) (w : World) (h : w.ownsRow base 9 1 v 1 [.string (nmB i)]) : Calls Yba.prog 18 #[v] w fun e w' => e = .returned (.tuple #[]) ∧ ∃ g, base ≤ g ∧ w.grownBy w' (some g) := by
  rcases h.2 with ⟨rfl, h0⟩ | ⟨g, cap, cur, rfl, hbg, hg, hn, hm, hs, ht⟩
  · cases h0
  · have hH : Holds encStr w g 0 [[UInt8.ofNat (97 + i)]].toArray := fun j hj => by
      have hj0 : j = 0 := by simpa using hj
      subst hj0
      refine ⟨?_, ?_⟩
      · have := World.ownsRow.cells h (g := g) rfl 0 (.string (nmB i)) rfl
        rw [show (⟨g, 0, none⟩ : Addr).add 0 = ⟨g, 0 + 0, none⟩ by unfold Addr.add; split <;> simp_all] at this
        exact this
      · unfold World.frozen?
        rw [show w.heap[(⟨g, 0 + 0, none⟩ : Addr).block]? = _ from hg]
        simp
    have hlt : g < w.heap.size := (Array.getElem?_eq_some_iff.1 hg).1
    refine (sortS_u g 0 cap [[UInt8.ofNat (97 + i)]] w hH hlt (by simp)).mono ?_
    rintro e w' ⟨rfl, n, os, rfl⟩
    refine ⟨rfl, g, hbg, ?_⟩
    have g1 := putRow_grownS w g 0 (([[UInt8.ofNat (97 + i)]] : List (List UInt8)).mergeSort fun x y => decide (x ≤ y)).toArray n
    exact gtr g1 ((grown_grow _ os).but _)
end Go.Proofs.Ybulkdbmw

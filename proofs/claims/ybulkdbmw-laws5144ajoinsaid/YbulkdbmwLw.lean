import Derived.Test.YbulkdbmwJn
import Derived.Test.YbulkdbmwBk
import Derived.Deep.MidRow
namespace Go.Proofs.Ybulkdbmw
open Go Go.RowKit Go.Sort Go.Shelf Go.Lib

/-- An entry of an argument: its header, its list's value, its list. -/
structure Ei where
  e : En
  pv : Value
  l : List Int

/-- The entry lies at ⟨b, o⟩. -/
structure EnAt (w : World) (b o : Nat) (x : Ei) : Prop where
  cells : w.rangeAt b o (x.e.cs x.pv).toList
  n0 : 0 ≤ x.e.n
  n1 : x.e.n < 256
  pl : Pv w x.pv x.l

def EntsAt (w : World) (ao : Option Addr) (n : Nat) (es : Nat → Ei) : Prop := ∀ i, i < n → ∃ b off, ao = some ⟨b, off, none⟩ ∧ b < w.heap.size ∧ EnAt w b (off + i * 16) (es i)

theorem info28 (n : Nat) (h : n = 16) : (Yba.prog.info? 28).map (·.size) = some n := by rw [h]; kernel_rfl

theorem EnAt.cell {w : World} {b o : Nat} {x : Ei} (h : EnAt w b o x) (j : Nat) (v : Value) (hj : (x.e.cs x.pv).toList[j]? = some v) : w.cell? ⟨b, o + j, none⟩ = some v := h.cells j v hj

theorem EnAt.f0 {w w' : World} {b o : Nat} {x : Ei} (h : EnAt w b o x) (hb : b < w.heap.size) (g : w.grownBy w' none) : EnAt w' b o x :=
  ⟨fun j v hv => (World.cell?_of_block (g.block b hb (by simp))).trans (h.cells j v hv), h.n0, h.n1, h.pl.f0 g⟩

theorem lde_u {w : World} {ops : Array Oper} {rest : List Oper} {o : Oper} {a : Act} {Q : Exit → Act → World → Prop} (hgd : o.guard = none) (x : Operand) (ho : o.op = .load 28 x) (b off : Nat) (hx : a.eval x = .pointer (some ⟨b, off, none⟩)) {e : Ei} (hb : EnAt w b off e)
    (k : wpList Yba.prog ops Q rest (a.put o.dst (e.e.val e.pv)) w) : wpList Yba.prog ops Q (o :: rest) a w :=
  wpList_load_mid hgd 28 x ho b off hx _ _ hb.cells Yba.underlying28 rfl (info28 _ rfl) k

theorem exec_nm2 (i : Nat) (hi : i < 8) (a : Act) (o : Oper) (p q : Tmp) (hop : o.op = .slice 9 (.const (.string ⟨#[97, 98, 99, 100, 101, 102, 103, 104]⟩)) (some (.tmp p)) (some (.tmp q)) none) (h12 : a.tmps[p]?.getD undef = .int .i64 (i : Int)) (h14 : a.tmps[q]?.getD undef = .int .i64 ((i : Int) + 1)) (wq : World) :
    (execOp a.eval o).run Yba.prog wq = .ok (.value (.string (nmB i))) wq := by
  unfold execOp
  simp only [hop]
  rcases (by omega : i = 0 ∨ i = 1 ∨ i = 2 ∨ i = 3 ∨ i = 4 ∨ i = 5 ∨ i = 6 ∨ i = 7) with rfl | rfl | rfl | rfl | rfl | rfl | rfl | rfl
  all_goals go_simp
  all_goals rfl

theorem nm_u {w : World} {ops : Array Oper} {rest : List Oper} {o : Oper} {a : Act} {Q : Exit → Act → World → Prop} (hgd : o.guard = none) (p q : Tmp) (ho : o.op = .slice 9 (.const (.string ⟨#[97, 98, 99, 100, 101, 102, 103, 104]⟩)) (some (.tmp p)) (some (.tmp q)) none) (i : Nat) (hi : i < 8) (hx : a.tmps[p]?.getD undef = .int .i64 (i : Int)) (hy : a.tmps[q]?.getD undef = .int .i64 ((i : Int) + 1))
    (k : wpList Yba.prog ops Q rest (a.put o.dst (.string (nmB i))) w) : wpList Yba.prog ops Q (o :: rest) a w := by
  refine wpList_plain hgd fun K' hK' => ?_
  unfold Oper.wp
  rw [exec_nm2 i hi a o p q ho hx hy w]
  exact hK' _ _ k

theorem alz_u {w : World} {ops : Array Oper} {rest : List Oper} {o : Oper} {a : Act} {Q : Exit → Act → World → Prop} (hgd : o.guard = none) (t : TypeId) (ho : o.op = .alloc t) (z : Value) (hz : (zeroValue t).run Yba.prog w = .ok z w)
    (k : ∀ w', w.grownBy w' none → wpList Yba.prog ops Q rest (a.put o.dst (.pointer (some ⟨w.heap.size, 0, none⟩))) w') : wpList Yba.prog ops Q (o :: rest) a w := by
  refine wpList_plain hgd fun K' hK' => ?_
  unfold Oper.wp execOp
  simp only [ho, Instr.alloc, Sem.run_bind, hz, Result.andThen_ok, newVar, newRow, run_newObj_alloc, Sem.run_pure]
  exact hK' _ _ (k _ (gA _ _))

theorem mm_u {w : World} {ops : Array Oper} {rest : List Oper} {o : Oper} {a : Act} {Q : Exit → Act → World → Prop} (hgd : o.guard = none) (ho : o.op = .makeMap 30 none)
    (k : ∀ w', Cat w' w.heap.size 0 (fun _ => none) → w.grownBy w' none → w'.heap.size = w.heap.size + 1 → wpList Yba.prog ops Q rest (a.put o.dst (.map (some w.heap.size))) w') : wpList Yba.prog ops Q (o :: rest) a w := by
  refine wpList_plain hgd fun K' hK' => ?_
  unfold Oper.wp execOp
  simp only [ho]
  simp [go_sem]
  exact hK' _ _ (k _ (Cat.new w) (gA _ _) (by simp))

/-- The catalog of the first k entries. -/
def fc (es : Nat → Ei) : Nat → Ent
  | 0 => fun _ => none
  | k + 1 => upd (fc es k) (es k).e.ix ((es k).e.hd, (es k).l)

theorem fc_bd (es : Nat → Ei) (n : Nat) (h : ∀ i, i < n → (es i).l.length ≤ 256) : ∀ k, k ≤ n → ∀ i x, fc es k i = some x → x.2.length ≤ 256
  | 0, _, i, x, e => by cases e
  | k + 1, hk, i, x, e => by
    unfold fc upd at e
    split at e
    · cases e; exact h k (by omega)
    · exact fc_bd es n h k (by omega) i x e
theorem ix_lt (e : En) : e.ix < 8 := by unfold En.ix; omega

theorem jn_some (F G : Ent) (i : Nat) : (jn F G i).isSome = ((F i).isSome || (G i).isSome) := by
  unfold jn
  cases hG : G i with
  | none => simp
  | some b => simp
end Go.Proofs.Ybulkdbmw

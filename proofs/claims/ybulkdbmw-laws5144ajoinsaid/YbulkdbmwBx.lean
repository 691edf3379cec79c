import Derived.Test.YbulkdbmwMap
import Derived.Laws.Tables
import Derived.Laws.Rows
namespace Go.Proofs.Ybulkdbmw
open Go Go.RowKit Go.Sort Go.Shelf Go.Lib

abbrev Hd.cs (h : Hd) (pd : Value) : Array Value := #[.string h.nm, .int .u64 h.sz, .int .u64 h.vw, .int .u32 h.h0, .int .u32 h.h1, .int .u32 h.h2, .int .u32 h.h3, .int .u32 h.h4, .int .u32 h.h5, .int .u32 h.tg, .int .u64 h.ti, .int .u64 h.tc, .int .u64 h.av, .int .u64 h.sq, .bool h.rm, pd]

/-- A variable of a block's type. -/
def Bx (w : World) (b : Nat) (h : Hd) (pd : Value) : Prop := w.heap[b]? = some (.cells (h.cs pd) 39 (0, 0))

def IsSl (pd : Value) : Prop := ∃ a n c, pd = .slice a n c
theorem Pl.sl {w : World} {v : Value} {l : List Int} (h : Pl w v l) : IsSl v := by obtain ⟨a, c, e⟩ := h.len; exact ⟨a, _, c, e⟩

theorem Bx.lt {w : World} {b : Nat} {h : Hd} {pd : Value} (x : Bx w b h pd) : b < w.heap.size := (Array.getElem?_eq_some_iff.1 x).1
theorem Bx.fr {w w' : World} {b : Nat} {h : Hd} {pd : Value} {r : Option Nat} (x : Bx w b h pd) (g : w.grownBy w' r) (hr : some b ≠ r) : Bx w' b h pd := (g.block b x.lt hr).trans x
theorem Bx.f0 {w w' : World} {b : Nat} {h : Hd} {pd : Value} (x : Bx w b h pd) (g : w.grownBy w' none) : Bx w' b h pd := x.fr g (by simp)
theorem Bx.cell {w : World} {b : Nat} {h : Hd} {pd : Value} (x : Bx w b h pd) {j : Nat} {v : Value} (e : (h.cs pd)[j]? = some v) : w.cell? ⟨b, j, none⟩ = some v := by
  unfold World.cell?
  rw [show w.heap[(⟨b, j, none⟩ : Addr).block]? = _ from x]
  exact e
theorem Bx.hc {w : World} {b : Nat} {h : Hd} {pd : Value} (x : Bx w b h pd) : Pl w (.slice (some ⟨b, 3, none⟩) 6 6) h.hs := by
  refine Or.inr ⟨b, 3, 6, rfl, Nat.le_refl _, x.lt, fun j hj => x.cell ?_⟩
  match j, hj with
  | 0, _ => rfl
  | 1, _ => rfl
  | 2, _ => rfl
  | 3, _ => rfl
  | 4, _ => rfl
  | 5, _ => rfl
  | n + 6, hj => simp [Hd.hs] at hj; omega
theorem Bx.nr {w : World} {b : Nat} {h : Hd} {pd : Value} (x : Bx w b h pd) : b < w.heap.size := x.lt

theorem info39 (c : Array Value) (h : c.size = 16) : (Yba.prog.info? 39).map (·.size) = some c.size := by rw [h]; kernel_rfl

theorem grown_row (w : World) (g : Nat) (cs : Array Value) : w.grownBy (w.setRow g cs) (some g) :=
  ⟨rfl, rfl, rfl, by simp, fun i _ hne => setRow_other w g i cs (fun e => hne (by rw [e]))⟩

theorem Bx.new (w : World) (h : Hd) (pd : Value) : Bx (w.alloc (.cells (h.cs pd) 39)) w.heap.size h pd := heap_alloc_new w _

theorem ret39 {fn : Func} {p : Tmp} (h : fn.results = #[.cell p 39]) (tmps : Array Value) {w : World} (g : Nat) {hd : Hd} {pd : Value} (hp : tmps.getD p undef = .pointer (some ⟨g, 0, none⟩)) (hb : Bx w g hd pd) :
    (results fn tmps).run Yba.prog w = .ok (hd.val pd) w := results_cell_row h tmps w g 39 _ (0, 0) _ hp hb Yba.underlying39 rfl (info39 _ rfl)

section
variable {w : World} {ops : Array Oper} {rest : List Oper} {o : Oper} {a : Act} {Q : Exit → Act → World → Prop}

theorem ld_u (hgd : o.guard = none) (x : Operand) (ho : o.op = .load 39 x) (b : Nat) (hx : a.eval x = .pointer (some ⟨b, 0, none⟩)) {h : Hd} {pd : Value} (hb : Bx w b h pd)
    (k : wpList Yba.prog ops Q rest (a.put o.dst (h.val pd)) w) : wpList Yba.prog ops Q (o :: rest) a w :=
  wpList_load_row hgd 39 x ho b hx 39 _ (0, 0) _ hb Yba.underlying39 rfl (info39 _ rfl) k

theorem st_u (hgd : o.guard = none) (x y : Operand) (ho : o.op = .store 39 x y) (b : Nat) (hx : a.eval x = .pointer (some ⟨b, 0, none⟩)) (h : Hd) (pd : Value) (hy : a.eval y = h.val pd) {h0 : Hd} {p0 : Value} (hb : Bx w b h0 p0) (hs : IsSl pd)
    (k : ∀ w', Bx w' b h pd → w.grownBy w' (some b) → w'.heap.size = w.heap.size → wpList Yba.prog ops Q rest (a.put o.dst undef) w') : wpList Yba.prog ops Q (o :: rest) a w := by
  refine wpList_store_row hgd 39 x y ho b (h.cs pd) hx hy 39 _ hb (info39 _ rfl) rfl ?_ (k _ (setRow_heap w b _ _ 39 (0, 0) hb) (grown_row w b _) (by simp))
  obtain ⟨p, n, c, rfl⟩ := hs
  simp [Value.oneCell']

/-- The list is turned. -/
theorem sp_u (hgd : o.guard = none) (x y : Operand) (ho : o.op = .store 37 x y) (b : Nat) (hx : a.eval x = .pointer (some ⟨b, 15, none⟩)) (pd : Value) (hy : a.eval y = pd) {h : Hd} {p0 : Value} (hb : Bx w b h p0) (hs : IsSl pd)
    (k : ∀ w', Bx w' b h pd → w.grownBy w' (some b) → w'.heap.size = w.heap.size → wpList Yba.prog ops Q rest (a.put o.dst undef) w') : wpList Yba.prog ops Q (o :: rest) a w := by
  obtain ⟨p, n, c, rfl⟩ := hs
  have hc : w.cell? ⟨b, 15, none⟩ = some p0 := hb.cell rfl
  have hf : w.frozen? ⟨b, 15, none⟩ = false := by unfold World.frozen?; rw [show w.heap[(⟨b, 15, none⟩ : Addr).block]? = _ from hb]; rfl
  have K := k _ (show Bx (w.setCell ⟨b, 15, none⟩ (.slice p n c)) b h (.slice p n c) by
    rw [setCell_eq_setRow w b 15 _ 39 (0, 0) _ hb]
    exact setRow_heap w b _ _ 39 (0, 0) hb) (set_grown w b 15 _) (by simp [World.setCell])
  refine wpList_plain hgd fun K' hK' => ?_
  unfold Oper.wp execOp
  simp only [ho, hx, hy]
  simp [go_sem, hc, hf]
  exact hK' _ _ K

theorem al_u (hgd : o.guard = none) (ho : o.op = .alloc 39)
    (k : ∀ w', Bx w' w.heap.size zHd (.slice none 0 0) → w.grownBy w' none → w'.heap.size = w.heap.size + 1 → wpList Yba.prog ops Q rest (a.put o.dst (.pointer (some ⟨w.heap.size, 0, none⟩))) w') : wpList Yba.prog ops Q (o :: rest) a w := by
  refine wpList_plain hgd fun K' hK' => ?_
  unfold Oper.wp execOp
  simp only [ho]
  simp [go_sem]
  exact hK' _ _ (k _ (Bx.new w zHd _) (gA _ _) (by simp))

theorem bo_u (hgd : o.guard = none) (x : Operand) (ho : o.op = .box 39 x) (h : Hd) (pd : Value) (hx : a.eval x = h.val pd)
    (k : ∀ w', Bx w' w.heap.size h pd → w.grownBy w' none → w'.heap.size = w.heap.size + 1 → wpList Yba.prog ops Q rest (a.put o.dst (.pointer (some ⟨w.heap.size, 0, none⟩))) w') : wpList Yba.prog ops Q (o :: rest) a w := by
  refine wpList_plain hgd fun K' hK' => ?_
  unfold Oper.wp execOp
  simp only [ho, hx, Sem.run_bind, Instr.box, newVar, newRow, run_newObj_alloc, Sem.run_pure, Result.andThen_ok]
  exact hK' _ _ (k _ (Bx.new w h pd) (gA _ _) (by simp))
end
end Go.Proofs.Ybulkdbmw

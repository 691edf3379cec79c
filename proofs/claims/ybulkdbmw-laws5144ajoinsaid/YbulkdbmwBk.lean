import Derived.Test.YbulkdbmwBx
import Derived.Test.YbulkdbmwZm
import Derived.Deep.RegionHeld3
import Derived.Deep.CutRange
import Derived.Laws.Cover3
namespace Go.Proofs.Ybulkdbmw
open Go Go.RowKit Go.Sort Go.Shelf Go.Lib

/-- An entry, its list aside. -/
structure En where
  n : Int
  sz : Int
  vw : Int
  h0 : Int
  h1 : Int
  h2 : Int
  h3 : Int
  h4 : Int
  h5 : Int
  tg : Int
  ti : Int
  tc : Int
  av : Int
  sq : Int
  rm : Bool

def En.val (e : En) (pd : Value) : Value := .agg #[.int .u8 e.n, .int .u64 e.sz, .int .u64 e.vw, .int .u32 e.h0, .int .u32 e.h1, .int .u32 e.h2, .int .u32 e.h3, .int .u32 e.h4, .int .u32 e.h5, .int .u32 e.tg, .int .u64 e.ti, .int .u64 e.tc, .int .u64 e.av, .int .u64 e.sq, .bool e.rm, pd]
def En.ix (e : En) : Nat := (e.n % 8).toNat
def En.hd (e : En) : Hd := ⟨nmB e.ix, e.sz, e.vw, e.h0, e.h1, e.h2, e.h3, e.h4, e.h5, e.tg, e.ti, e.tc, e.av, e.sq, e.rm⟩

abbrev En.cs (e : En) (pd : Value) : Array Value := #[.int .u8 e.n, .int .u64 e.sz, .int .u64 e.vw, .int .u32 e.h0, .int .u32 e.h1, .int .u32 e.h2, .int .u32 e.h3, .int .u32 e.h4, .int .u32 e.h5, .int .u32 e.tg, .int .u64 e.ti, .int .u64 e.tc, .int .u64 e.av, .int .u64 e.sq, .bool e.rm, pd]
def Eb (w : World) (b : Nat) (e : En) (pd : Value) : Prop := w.heap[b]? = some (.cells (e.cs pd) 28 (0, 0))
theorem Eb.lt {w : World} {b : Nat} {h : En} {pd : Value} (x : Eb w b h pd) : b < w.heap.size := (Array.getElem?_eq_some_iff.1 x).1
theorem Eb.fr {w w' : World} {b : Nat} {h : En} {pd : Value} {r : Option Nat} (x : Eb w b h pd) (g : w.grownBy w' r) (hr : some b ≠ r) : Eb w' b h pd := (g.block b x.lt hr).trans x
theorem Eb.f0 {w w' : World} {b : Nat} {h : En} {pd : Value} (x : Eb w b h pd) (g : w.grownBy w' none) : Eb w' b h pd := x.fr g (by simp)
theorem Eb.cell {w : World} {b : Nat} {h : En} {pd : Value} (x : Eb w b h pd) {j : Nat} {v : Value} (e : (h.cs pd)[j]? = some v) : w.cell? ⟨b, j, none⟩ = some v := by
  unfold World.cell?
  rw [show w.heap[(⟨b, j, none⟩ : Addr).block]? = _ from x]
  exact e

theorem boe_u {w : World} {ops : Array Oper} {rest : List Oper} {o : Oper} {a : Act} {Q : Exit → Act → World → Prop} (hgd : o.guard = none) (x : Operand) (ho : o.op = .box 28 x) (h : En) (pd : Value) (hx : a.eval x = h.val pd)
    (k : ∀ w', Eb w' w.heap.size h pd → w.grownBy w' none → w'.heap.size = w.heap.size + 1 → wpList Yba.prog ops Q rest (a.put o.dst (.pointer (some ⟨w.heap.size, 0, none⟩))) w') : wpList Yba.prog ops Q (o :: rest) a w := by
  refine wpList_plain hgd fun K' hK' => ?_
  unfold Oper.wp execOp
  simp only [ho, hx, Sem.run_bind, Instr.box, newVar, newRow, run_newObj_alloc, Sem.run_pure, Result.andThen_ok]
  exact hK' _ _ (k _ (heap_alloc_new w _) (gA _ _) (by simp))

theorem exec_nm (i : Nat) (hi : i < 8) (a : Act) (o : Oper) (hop : o.op = .slice 9 (.const (.string ⟨#[97, 98, 99, 100, 101, 102, 103, 104]⟩)) (some (.tmp 12)) (some (.tmp 14)) none) (h12 : a.tmps[12]?.getD undef = .int .i64 (i : Int)) (h14 : a.tmps[14]?.getD undef = .int .i64 ((i + 1 : Nat) : Int)) (wq : World) :
    (execOp a.eval o).run Yba.prog wq = .ok (.value (.string (nmB i))) wq := by
  unfold execOp
  simp only [hop]
  rcases (by omega : i = 0 ∨ i = 1 ∨ i = 2 ∨ i = 3 ∨ i = 4 ∨ i = 5 ∨ i = 6 ∨ i = 7) with rfl | rfl | rfl | rfl | rfl | rfl | rfl | rfl
  all_goals go_simp
  all_goals rfl
theorem exec_add (i : Nat) (hi : i < 8) (a : Act) (o : Oper) (hop : o.op = .binOp .add 3 (.tmp 13) (.const (.int .i64 1)) 3) (h : a.tmps[13]?.getD undef = .int .i64 (i : Int)) (wq : World) :
    (execOp a.eval o).run Yba.prog wq = .ok (.value (.int .i64 ((i + 1 : Nat) : Int))) wq := by
  unfold execOp
  simp only [hop]
  rcases (by omega : i = 0 ∨ i = 1 ∨ i = 2 ∨ i = 3 ∨ i = 4 ∨ i = 5 ∨ i = 6 ∨ i = 7) with rfl | rfl | rfl | rfl | rfl | rfl | rfl | rfl
  all_goals go_simp
  all_goals rfl

def En.hs (e : En) : List Int := [e.h0, e.h1, e.h2, e.h3, e.h4, e.h5]
def Hd.setH (h : Hd) (j : Nat) (x : Int) : Hd := ⟨h.nm, h.sz, h.vw, if j = 0 then x else h.h0, if j = 1 then x else h.h1, if j = 2 then x else h.h2, if j = 3 then x else h.h3, if j = 4 then x else h.h4, if j = 5 then x else h.h5, h.tg, h.ti, h.tc, h.av, h.sq, h.rm⟩
/-- The first j holders are laid. -/
def hj (e : En) (i j : Nat) : Hd := ⟨nmB i, e.sz, e.vw, if 0 < j then e.h0 else 0, if 1 < j then e.h1 else 0, if 2 < j then e.h2 else 0, if 3 < j then e.h3 else 0, if 4 < j then e.h4 else 0, if 5 < j then e.h5 else 0, e.tg, e.ti, e.tc, e.av, e.sq, e.rm⟩

theorem hj_set (e : En) (i j : Nat) (hj6 : j < 6) : (hj e i j).setH j e.hs[j]! = hj e i (j + 1) := by
  rcases (by omega : j = 0 ∨ j = 1 ∨ j = 2 ∨ j = 3 ∨ j = 4 ∨ j = 5) with rfl | rfl | rfl | rfl | rfl | rfl <;> rfl

theorem Eb.hcell {w : World} {b : Nat} {e : En} {pd : Value} (x : Eb w b e pd) (j : Nat) (hj6 : j < 6) : w.cell? ⟨b, 3 + j, none⟩ = some (encU e.hs[j]!) := by
  rcases (by omega : j = 0 ∨ j = 1 ∨ j = 2 ∨ j = 3 ∨ j = 4 ∨ j = 5) with rfl | rfl | rfl | rfl | rfl | rfl <;> exact x.cell rfl

theorem frz {w : World} {b j : Nat} {cs : Array Value} {T : TypeId} (h : w.heap[b]? = some (.cells cs T (0, 0))) : w.frozen? ⟨b, j, none⟩ = false := by
  unfold World.frozen?
  rw [show w.heap[(⟨b, j, none⟩ : Addr).block]? = _ from h]
  simp

theorem Bx.set {w : World} {b : Nat} {h : Hd} {pd : Value} (hb : Bx w b h pd) (j : Nat) (hj6 : j < 6) (x : Int) : Bx (w.setCell ⟨b, 3 + j, none⟩ (encU x)) b (h.setH j x) pd := by
  rw [setCell_eq_setRow w b (3 + j) _ 39 (0, 0) _ hb]
  have := setRow_heap w b _ ((h.cs pd).setIfInBounds (3 + j) (encU x)) 39 (0, 0) hb
  unfold Bx
  rw [this]
  rcases (by omega : j = 0 ∨ j = 1 ∨ j = 2 ∨ j = 3 ∨ j = 4 ∨ j = 5) with rfl | rfl | rfl | rfl | rfl | rfl <;> rfl

/-- A block of numbers. -/
def Mk (w : World) (b : Nat) (xs : List Int) : Prop := w.heap[b]? = some (.cells (xs.map encU).toArray 31 (0, 0))
theorem Mk.lt {w : World} {b : Nat} {xs : List Int} (x : Mk w b xs) : b < w.heap.size := (Array.getElem?_eq_some_iff.1 x).1
theorem Mk.fr {w w' : World} {b : Nat} {xs : List Int} {r : Option Nat} (x : Mk w b xs) (g : w.grownBy w' r) (hr : some b ≠ r) : Mk w' b xs := (g.block b x.lt hr).trans x
theorem Mk.cell {w : World} {b : Nat} {xs : List Int} (x : Mk w b xs) (j : Nat) (hj : j < xs.length) : w.cell? ⟨b, j, none⟩ = some (encU xs[j]!) := by
  unfold World.cell?
  rw [show w.heap[(⟨b, j, none⟩ : Addr).block]? = _ from x]
  rw [getElem!_pos xs j hj]
  simp [hj]
theorem Mk.pl {w : World} {b : Nat} {xs : List Int} (x : Mk w b xs) (cap : Nat) (hc : xs.length ≤ cap) : Pl w (.slice (some ⟨b, 0, none⟩) xs.length cap) xs := Or.inr ⟨b, 0, cap, rfl, hc, x.lt, fun j hj => by rw [Nat.zero_add]; exact x.cell j hj⟩
theorem Mk.set {w : World} {b : Nat} {xs : List Int} (h : Mk w b xs) (j : Nat) (x : Int) : Mk (w.setCell ⟨b, j, none⟩ (encU x)) b (xs.set j x) := by
  rw [setCell_eq_setRow w b j _ 31 (0, 0) _ h]
  have := setRow_heap w b _ ((xs.map encU).toArray.setIfInBounds j (encU x)) 31 (0, 0) h
  unfold Mk
  rw [this]
  simp [List.map_set]

theorem take_set (l : List Int) (k : Nat) (hk : k < l.length) : (l.take k ++ List.replicate (l.length - k) 0).set k l[k]! = l.take (k + 1) ++ List.replicate (l.length - (k + 1)) 0 := by
  have e : l.take (k + 1) = l.take k ++ [l[k]] := by rw [List.take_add_one, List.getElem?_eq_getElem hk]; rfl
  have hm : min k l.length = k := Nat.min_eq_left (Nat.le_of_lt hk)
  rw [getElem!_pos l k hk, show l.length - k = (l.length - (k + 1)) + 1 by omega, List.replicate_succ, List.set_append, if_neg (by rw [List.length_take, hm]; omega), List.length_take, hm, Nat.sub_self, List.set_cons_zero, e, List.append_assoc]
  rfl

theorem mk_u {w : World} {ops : Array Oper} {rest : List Oper} {o : Oper} {a : Act} {Q : Exit → Act → World → Prop} (hgd : o.guard = none) (x y : Operand) (ho : o.op = .makeSlice 37 x y) (n : Nat) (hx : a.eval x = .int .i64 n) (hy : a.eval y = .int .i64 n) (hn : n < 1000000)
    (k : ∀ w', Mk w' w.heap.size (List.replicate n 0) → w.grownBy w' none → w'.heap.size = w.heap.size + 1 → wpList Yba.prog ops Q rest (a.put o.dst (.slice (some ⟨w.heap.size, 0, none⟩) n n)) w') : wpList Yba.prog ops Q (o :: rest) a w := by
  obtain ⟨i, hi, hzi⟩ : ∃ i, Yba.prog.info? 31 = some i ∧ (i.zero, i.size, i.bytes) = (some (.int .u32 0), 1, 4) := by
    have := info31
    cases hh : Yba.prog.info? 31 with
    | none => rw [hh] at this; simp at this
    | some i => rw [hh] at this; exact ⟨i, rfl, by simpa using this⟩
  simp only [Prod.mk.injEq] at hzi
  have hr := run_makeSlice (P := Yba.prog) w 37 31 i _ Yba.underlying37 hi hzi.1 .i64 .i64 n n (by omega) (by omega) (by rw [hzi.2.1]; simp; omega) (by rw [hzi.2.2]; omega) (by omega)
  simp only [Int.toNat_natCast] at hr
  have he : madeCells (Value.int .u32 0).cells (n * i.size) = ((List.replicate n 0).map encU).toArray := by
    rw [hzi.2.1]
    apply Array.ext
    · simp [madeCells]
    · intro j h1 h2
      simp [madeCells, Value.cells, Nat.mod_one]
  rw [he] at hr
  refine wpList_plain hgd fun K' hK' => ?_
  unfold Oper.wp execOp
  simp only [ho, hx, hy, Sem.run_bind, hr, Result.andThen_ok, Sem.run_pure]
  refine hK' _ _ (k _ ?_ (gA _ _) (by simp))
  exact heap_alloc_new w _

/-- The slice reads as the list l (an empty one may point anywhere). -/
def Pv (w : World) (v : Value) (l : List Int) : Prop := (v = .slice none 0 0 ∧ l = []) ∨ ∃ ad cap, v = .slice (some ad) l.length cap ∧ ∀ j, j < l.length → ∃ b off, ad = ⟨b, off, none⟩ ∧ b < w.heap.size ∧ w.cell? ⟨b, off + j, none⟩ = some (encU l[j]!)
theorem Pv.f0 {w w' : World} {v : Value} {l : List Int} (h : Pv w v l) (g : w.grownBy w' none) : Pv w' v l := by
  rcases h with h | ⟨ad, cap, e, hd⟩
  · exact Or.inl h
  · exact Or.inr ⟨ad, cap, e, fun j hj => by obtain ⟨b, off, e1, hb, hc⟩ := hd j hj; exact ⟨b, off, e1, Nat.lt_of_lt_of_le hb g.size, (World.cell?_of_block (g.block b hb (by simp))).trans hc⟩⟩
theorem Pv.len {w : World} {v : Value} {l : List Int} (h : Pv w v l) : ∃ a c, v = .slice a l.length c := by
  rcases h with ⟨rfl, rfl⟩ | ⟨ad, cap, rfl, _⟩
  · exact ⟨none, 0, rfl⟩
  · exact ⟨_, _, rfl⟩

set_option maxHeartbeats 3200000 in
set_option maxRecDepth 100000 in
theorem block_u (e : En) (pd : Value) (l : List Int) (w : World) (hp : Pv w pd l) (hn : 0 ≤ e.n) (hn2 : e.n < 256) (hl : l.length < 1000) :
    Calls Yba.prog 4 #[e.val pd] w fun e' w' => ∃ v, e' = .returned (e.hd.val v) ∧ Pl w' v l ∧ w.grownBy w' none := by
  obtain ⟨i, hi, hi8⟩ : ∃ i : Nat, e.n % 8 = (i : Int) ∧ i < 8 := ⟨(e.n % 8).toNat, by omega, by omega⟩
  have hix : e.ix = i := by unfold En.ix; omega
  unfold En.hd
  rw [hix]
  clear hix
  go_enter Yba.func4, Yba.ntmps4
  go_upto_region 1 with (first | (refine boe_u rfl (.tmp 0) rfl e pd rfl ?_; intro w1 x1 g1 s1) | (refine al_u rfl rfl ?_; intro w2 x2 g2 s2))
  rw [s1] at *
  have X1 := x1.f0 g2
  have G2 := gtr g1 g2
  have c0 : w2.cell? ⟨w.heap.size, 0, none⟩ = some (.int .u8 e.n) := X1.cell rfl
  clear x1 g1 g2
  go_upto_region 2 with fail
  have H2 := fun a h wq => exec_add i hi8 a { dst := some 14, op := Op.binOp BinOp.add 3 (Operand.tmp 13) (Operand.const (Value.int IntKind.i64 1)) 3, type := 3, pos := "zz_law_s5144a.go:27", after := #[{ on := 1, ground := Ground.data }], guard := none } rfl h wq
  have H3 := fun a h h' wq => exec_nm i hi8 a { dst := some 15, op := Op.slice 9 (Operand.const (Value.string { data := #[97, 98, 99, 100, 101, 102, 103, 104] })) (some (Operand.tmp 12)) (some (Operand.tmp 14)) none, type := 9, pos := "zz_law_s5144a.go:27", after := #[{ on := 0, ground := Ground.data }, { on := 2, ground := Ground.data }], guard := none } rfl h h' wq
  refine wp_region_held_drew (S := fun wq => Eb wq w.heap.size e pd) (by kernel_rfl) X1 (fun hS => ?_)
  refine wpAnyH_take (i := 0) (oi := { dst := some 12, op := Op.move (Operand.tmp 3), type := 3, pos := "zz_law_s5144a.go:27", after := #[], guard := none }) (v := .int .i64 (i : Int)) rfl (by kernel_rfl) (by kernel_rfl) (by kernel_rfl) (fun _ _ _ h => h) (Or.inl ⟨rfl, fun wq hq => ?_⟩) hS ?_
  · rfl
  go_frame
  refine wpAnyH_take (i := 1) (oi := { dst := some 13, op := Op.move (Operand.tmp 3), type := 3, pos := "zz_law_s5144a.go:27", after := #[], guard := none }) (v := .int .i64 (i : Int)) rfl (by kernel_rfl) (by kernel_rfl) (by kernel_rfl) (fun _ _ _ h => h) (Or.inl ⟨rfl, fun wq hq => ?_⟩) hS ?_
  · rfl
  go_frame
  refine wpAnyH_take (i := 2) (oi := { dst := some 14, op := Op.binOp BinOp.add 3 (Operand.tmp 13) (Operand.const (Value.int IntKind.i64 1)) 3, type := 3, pos := "zz_law_s5144a.go:27", after := #[{ on := 1, ground := Ground.data }], guard := none }) (v := .int .i64 ((i + 1 : Nat) : Int)) rfl (by kernel_rfl) (by kernel_rfl) (by kernel_rfl) (fun _ _ _ h => h) (Or.inl ⟨rfl, fun wq hq => ?_⟩) hS ?_
  · exact H2 _ rfl wq
  go_frame
  refine wpAnyH_take (i := 3) (oi := { dst := some 15, op := Op.slice 9 (Operand.const (Value.string { data := #[97, 98, 99, 100, 101, 102, 103, 104] })) (some (Operand.tmp 12)) (some (Operand.tmp 14)) none, type := 9, pos := "zz_law_s5144a.go:27", after := #[{ on := 0, ground := Ground.data }, { on := 2, ground := Ground.data }], guard := none }) (v := .string (nmB i)) rfl (by kernel_rfl) (by kernel_rfl) (by kernel_rfl) (fun _ _ _ h => h) (Or.inl ⟨rfl, fun wq hq => ?_⟩) hS ?_
  · exact H3 _ rfl rfl wq
  go_frame
  refine wpAnyH_take (i := 4) (oi := { dst := some 16, op := Op.fieldAddr 28 (Operand.tmp 1) 1, type := 0, pos := "zz_law_s5144a.go:27", after := #[], guard := none }) (v := .pointer (some ⟨w.heap.size, 1, none⟩)) rfl (by kernel_rfl) (by kernel_rfl) (by kernel_rfl) (fun _ _ _ h => h) (Or.inl ⟨rfl, fun wq hq => ?_⟩) hS ?_
  · first | rfl | (go_simp; done)
  go_frame
  refine wpAnyH_take (i := 5) (oi := { dst := some 17, op := Op.load 24 (Operand.tmp 16), type := 24, pos := "zz_law_s5144a.go:27", after := #[{ on := 4, ground := Ground.data }], guard := none }) (v := .int .u64 e.sz) rfl (by kernel_rfl) (by kernel_rfl) (by kernel_rfl) (fun _ _ _ h => h) (Or.inl ⟨rfl, fun wq hq => ?_⟩) hS ?_
  · have hc := hq.cell (j := 1) rfl; first | (go_simp; done) | (go_simp; rfl)
  go_frame
  refine wpAnyH_take (i := 6) (oi := { dst := some 18, op := Op.fieldAddr 28 (Operand.tmp 1) 2, type := 0, pos := "zz_law_s5144a.go:27", after := #[], guard := none }) (v := .pointer (some ⟨w.heap.size, 2, none⟩)) rfl (by kernel_rfl) (by kernel_rfl) (by kernel_rfl) (fun _ _ _ h => h) (Or.inl ⟨rfl, fun wq hq => ?_⟩) hS ?_
  · first | rfl | (go_simp; done)
  go_frame
  refine wpAnyH_take (i := 7) (oi := { dst := some 19, op := Op.load 24 (Operand.tmp 18), type := 24, pos := "zz_law_s5144a.go:27", after := #[{ on := 6, ground := Ground.data }], guard := none }) (v := .int .u64 e.vw) rfl (by kernel_rfl) (by kernel_rfl) (by kernel_rfl) (fun _ _ _ h => h) (Or.inl ⟨rfl, fun wq hq => ?_⟩) hS ?_
  · have hc := hq.cell (j := 2) rfl; first | (go_simp; done) | (go_simp; rfl)
  go_frame
  refine wpAnyH_take (i := 8) (oi := { dst := some 20, op := Op.fieldAddr 28 (Operand.tmp 1) 4, type := 0, pos := "zz_law_s5144a.go:27", after := #[], guard := none }) (v := .pointer (some ⟨w.heap.size, 9, none⟩)) rfl (by kernel_rfl) (by kernel_rfl) (by kernel_rfl) (fun _ _ _ h => h) (Or.inl ⟨rfl, fun wq hq => ?_⟩) hS ?_
  · first | rfl | (go_simp; done)
  go_frame
  refine wpAnyH_take (i := 9) (oi := { dst := some 21, op := Op.load 25 (Operand.tmp 20), type := 25, pos := "zz_law_s5144a.go:27", after := #[{ on := 8, ground := Ground.data }], guard := none }) (v := .int .u32 e.tg) rfl (by kernel_rfl) (by kernel_rfl) (by kernel_rfl) (fun _ _ _ h => h) (Or.inl ⟨rfl, fun wq hq => ?_⟩) hS ?_
  · have hc := hq.cell (j := 9) rfl; first | (go_simp; done) | (go_simp; rfl)
  go_frame
  refine wpAnyH_take (i := 10) (oi := { dst := some 22, op := Op.fieldAddr 28 (Operand.tmp 1) 5, type := 0, pos := "zz_law_s5144a.go:27", after := #[], guard := none }) (v := .pointer (some ⟨w.heap.size, 10, none⟩)) rfl (by kernel_rfl) (by kernel_rfl) (by kernel_rfl) (fun _ _ _ h => h) (Or.inl ⟨rfl, fun wq hq => ?_⟩) hS ?_
  · first | rfl | (go_simp; done)
  go_frame
  refine wpAnyH_take (i := 11) (oi := { dst := some 23, op := Op.load 24 (Operand.tmp 22), type := 24, pos := "zz_law_s5144a.go:27", after := #[{ on := 10, ground := Ground.data }], guard := none }) (v := .int .u64 e.ti) rfl (by kernel_rfl) (by kernel_rfl) (by kernel_rfl) (fun _ _ _ h => h) (Or.inl ⟨rfl, fun wq hq => ?_⟩) hS ?_
  · have hc := hq.cell (j := 10) rfl; first | (go_simp; done) | (go_simp; rfl)
  go_frame
  refine wpAnyH_take (i := 12) (oi := { dst := some 24, op := Op.fieldAddr 28 (Operand.tmp 1) 6, type := 0, pos := "zz_law_s5144a.go:27", after := #[], guard := none }) (v := .pointer (some ⟨w.heap.size, 11, none⟩)) rfl (by kernel_rfl) (by kernel_rfl) (by kernel_rfl) (fun _ _ _ h => h) (Or.inl ⟨rfl, fun wq hq => ?_⟩) hS ?_
  · first | rfl | (go_simp; done)
  go_frame
  refine wpAnyH_take (i := 13) (oi := { dst := some 25, op := Op.load 24 (Operand.tmp 24), type := 24, pos := "zz_law_s5144a.go:27", after := #[{ on := 12, ground := Ground.data }], guard := none }) (v := .int .u64 e.tc) rfl (by kernel_rfl) (by kernel_rfl) (by kernel_rfl) (fun _ _ _ h => h) (Or.inl ⟨rfl, fun wq hq => ?_⟩) hS ?_
  · have hc := hq.cell (j := 11) rfl; first | (go_simp; done) | (go_simp; rfl)
  go_frame
  refine wpAnyH_take (i := 14) (oi := { dst := some 26, op := Op.build 34 #[(0, Operand.tmp 21), (1, Operand.tmp 23), (2, Operand.tmp 25)], type := 34, pos := "zz_law_s5144a.go:27", after := #[{ on := 9, ground := Ground.data }, { on := 11, ground := Ground.data }, { on := 13, ground := Ground.data }], guard := none }) (v := .agg #[.int .u32 e.tg, .int .u64 e.ti, .int .u64 e.tc]) rfl (by kernel_rfl) (by kernel_rfl) (by kernel_rfl) (fun _ _ _ h => h) (Or.inl ⟨rfl, fun wq hq => ?_⟩) hS ?_
  · first | rfl | (go_simp; done) | (go_simp; rfl)
  go_frame
  refine wpAnyH_take (i := 15) (oi := { dst := some 27, op := Op.fieldAddr 28 (Operand.tmp 1) 7, type := 0, pos := "zz_law_s5144a.go:27", after := #[], guard := none }) (v := .pointer (some ⟨w.heap.size, 12, none⟩)) rfl (by kernel_rfl) (by kernel_rfl) (by kernel_rfl) (fun _ _ _ h => h) (Or.inl ⟨rfl, fun wq hq => ?_⟩) hS ?_
  · first | rfl | (go_simp; done)
  go_frame
  refine wpAnyH_take (i := 16) (oi := { dst := some 28, op := Op.load 24 (Operand.tmp 27), type := 24, pos := "zz_law_s5144a.go:27", after := #[{ on := 15, ground := Ground.data }], guard := none }) (v := .int .u64 e.av) rfl (by kernel_rfl) (by kernel_rfl) (by kernel_rfl) (fun _ _ _ h => h) (Or.inl ⟨rfl, fun wq hq => ?_⟩) hS ?_
  · have hc := hq.cell (j := 12) rfl; first | (go_simp; done) | (go_simp; rfl)
  go_frame
  refine wpAnyH_take (i := 17) (oi := { dst := some 29, op := Op.fieldAddr 28 (Operand.tmp 1) 8, type := 0, pos := "zz_law_s5144a.go:27", after := #[], guard := none }) (v := .pointer (some ⟨w.heap.size, 13, none⟩)) rfl (by kernel_rfl) (by kernel_rfl) (by kernel_rfl) (fun _ _ _ h => h) (Or.inl ⟨rfl, fun wq hq => ?_⟩) hS ?_
  · first | rfl | (go_simp; done)
  go_frame
  refine wpAnyH_take (i := 18) (oi := { dst := some 30, op := Op.load 24 (Operand.tmp 29), type := 24, pos := "zz_law_s5144a.go:27", after := #[{ on := 17, ground := Ground.data }], guard := none }) (v := .int .u64 e.sq) rfl (by kernel_rfl) (by kernel_rfl) (by kernel_rfl) (fun _ _ _ h => h) (Or.inl ⟨rfl, fun wq hq => ?_⟩) hS ?_
  · have hc := hq.cell (j := 13) rfl; first | (go_simp; done) | (go_simp; rfl)
  go_frame
  refine wpAnyH_take (i := 19) (oi := { dst := some 31, op := Op.build 36 #[(0, Operand.tmp 28), (1, Operand.tmp 30)], type := 36, pos := "zz_law_s5144a.go:27", after := #[{ on := 16, ground := Ground.data }, { on := 18, ground := Ground.data }], guard := none }) (v := .agg #[.int .u64 e.av, .int .u64 e.sq]) rfl (by kernel_rfl) (by kernel_rfl) (by kernel_rfl) (fun _ _ _ h => h) (Or.inl ⟨rfl, fun wq hq => ?_⟩) hS ?_
  · first | rfl | (go_simp; done) | (go_simp; rfl)
  go_frame
  refine wpAnyH_take (i := 20) (oi := { dst := some 32, op := Op.fieldAddr 28 (Operand.tmp 1) 9, type := 0, pos := "zz_law_s5144a.go:27", after := #[], guard := none }) (v := .pointer (some ⟨w.heap.size, 14, none⟩)) rfl (by kernel_rfl) (by kernel_rfl) (by kernel_rfl) (fun _ _ _ h => h) (Or.inl ⟨rfl, fun wq hq => ?_⟩) hS ?_
  · first | rfl | (go_simp; done)
  go_frame
  refine wpAnyH_take (i := 21) (oi := { dst := some 33, op := Op.load 4 (Operand.tmp 32), type := 4, pos := "zz_law_s5144a.go:27", after := #[{ on := 20, ground := Ground.data }], guard := none }) (v := .bool e.rm) rfl (by kernel_rfl) (by kernel_rfl) (by kernel_rfl) (fun _ _ _ h => h) (Or.inl ⟨rfl, fun wq hq => ?_⟩) hS ?_
  · have hc := hq.cell (j := 14) rfl; first | (go_simp; done) | (go_simp; rfl)
  go_frame
  refine wpAnyH_take (i := 22) (oi := { dst := some 34, op := Op.build 39 #[(0, Operand.tmp 15), (1, Operand.tmp 17), (2, Operand.tmp 19), (4, Operand.tmp 26), (5, Operand.tmp 31), (6, Operand.tmp 33)], type := 39, pos := "zz_law_s5144a.go:27", after := #[{ on := 3, ground := Ground.data }, { on := 5, ground := Ground.data }, { on := 7, ground := Ground.data }, { on := 14, ground := Ground.data }, { on := 19, ground := Ground.data }, { on := 21, ground := Ground.data }], guard := none }) (v := (Hd.mk (nmB i) e.sz e.vw 0 0 0 0 0 0 e.tg e.ti e.tc e.av e.sq e.rm).val (.slice none 0 0)) rfl (by kernel_rfl) (by kernel_rfl) (by kernel_rfl) (fun _ _ _ h => h) (Or.inl ⟨rfl, fun wq hq => ?_⟩) hS ?_
  · first | rfl | (go_simp; done) | (go_simp; rfl)
  go_frame
  refine wpAnyH_ready (rs := [23]) (by kernel_rfl) (by simp) ?_
  refine AllReadyH.cons (o := { dst := some 4, op := Op.alloc 39, type := 0, pos := "zz_law_s5144a.go:27", after := #[], guard := none }) rfl (fun K hK => ?_) AllReadyH.nil
  rw [if_pos (by rfl)]
  refine al_w rfl ?_
  intro w3 x3 g3 s3
  refine hK.out _ _ (hS.f0 g3) (fun hS3 => ?_)
  clear hK K
  go_frame
  refine wpAnyH_ready (rs := [24]) (by kernel_rfl) (by simp) ?_
  refine AllReadyH.cons (o := { dst := none, op := Op.store 39 (Operand.tmp 4) (Operand.tmp 34), type := 0, pos := "zz_law_s5144a.go:27", after := #[{ on := 23, ground := Ground.data }, { on := 22, ground := Ground.data }, { on := 0, ground := Ground.phase }, { on := 1, ground := Ground.phase }, { on := 2, ground := Ground.phase }, { on := 3, ground := Ground.phase }, { on := 4, ground := Ground.phase }, { on := 5, ground := Ground.phase }, { on := 6, ground := Ground.phase }, { on := 7, ground := Ground.phase }, { on := 8, ground := Ground.phase }, { on := 9, ground := Ground.phase }, { on := 10, ground := Ground.phase }, { on := 11, ground := Ground.phase }, { on := 12, ground := Ground.phase }, { on := 13, ground := Ground.phase }, { on := 14, ground := Ground.phase }, { on := 15, ground := Ground.phase }, { on := 16, ground := Ground.phase }, { on := 17, ground := Ground.phase }, { on := 18, ground := Ground.phase }, { on := 19, ground := Ground.phase }, { on := 20, ground := Ground.phase }, { on := 21, ground := Ground.phase }, { on := 22, ground := Ground.phase }, { on := 23, ground := Ground.phase }], guard := none }) rfl (fun K hK => ?_) AllReadyH.nil
  rw [if_pos (by rfl)]
  refine st_w _ _ rfl _ rfl (Hd.mk (nmB i) e.sz e.vw 0 0 0 0 0 0 e.tg e.ti e.tc e.av e.sq e.rm) (.slice none 0 0) rfl x3 ⟨none, 0, 0, rfl⟩ ?_
  intro w4 x4 g4 s4
  have hne : w.heap.size ≠ w2.heap.size := by omega
  refine hK.out _ _ (hS3.fr g4 (by simpa using hne)) (fun hS4 => ?_)
  clear hK K
  go_frame
  refine wpAnyH_done (by kernel_rfl) ?_ _
  have Y4 : Bx w4 (w.heap.size + 1 + 1) (hj e i 0) (.slice none 0 0) := by rw [← s2]; exact x4
  have Y2 : Bx w4 (w.heap.size + 1) zHd (.slice none 0 0) := ((show Bx w2.drew _ _ _ from x2).f0 g3).fr g4 (by simp; omega)
  have G4 : w.grownBy w4 none := gnew (gtr (gD G2 1) g3) g4 (fun k e => by cases e; show w.heap.size ≤ w2.heap.size; omega)
  have hsz4 : w.heap.size + 1 + 1 + 1 = w4.heap.size := by rw [s4, s3]; show _ = w2.heap.size + 1; omega
  clear x4 x2 X1 G2 g3 g4 hS3 hS x3 H2 H3 c0
  go_wp2_with fail
  go_loopw [5] (fun v5 wr => ∃ j : Nat, v5 = .int .i64 j ∧ j ≤ 6 ∧ Bx wr (w.heap.size + 1 + 1) (hj e i j) (.slice none 0 0) ∧ Eb wr w.heap.size e pd ∧ Bx wr (w.heap.size + 1) zHd (.slice none 0 0) ∧ w.grownBy wr none) (fun v5 _ => 6 - (intOf v5).toNat)
  case atStart => exact ⟨0, rfl, by omega, Y4, hS4, Y2, G4⟩
  case round =>
    obtain ⟨j, rfl, hj6, V4, V1, V2, G⟩ := hrel
    by_cases hlt : j < 6
    · have cx := V1.hcell j hlt
      have cy : ∃ v, wr.cell? ⟨w.heap.size + 1 + 1, 3 + j, none⟩ = some v := by
        have := V4.hc
        rcases this with ⟨h, _⟩ | ⟨b', off', cap', e1, _, _, hd⟩
        · cases h
        · cases e1; exact ⟨_, hd j hlt⟩
      obtain ⟨v, cy⟩ := cy
      have fy : wr.frozen? ⟨w.heap.size + 1 + 1, 3 + j, none⟩ = false := frz V4
      have HX : Hid _ := V4.set j hlt e.hs[j]!
      have HV : Hid (Eb wr w.heap.size e pd ∧ Bx wr (w.heap.size + 1) zHd (.slice none 0 0) ∧ w.grownBy wr none) := ⟨V1, V2, G⟩
      have hsetj := hj_set e i j hlt
      have hltI : (j : Int) < 6 := by omega
      clear V1 V2 G V4
      generalize e.hs[j]! = x at *
      go_wp2_with fail
      go_roundw
      case rel =>
        refine ⟨j + 1, by go_num, by omega, ?_, HV.out.1.fr (set_grown _ _ _ _) (by simp; omega), HV.out.2.1.fr (set_grown _ _ _ _) (by simp), gnew HV.out.2.2 (set_grown _ _ _ _) (fun k e => by cases e; omega)⟩
        rw [← hsetj]
        exact HX.out
      case measure => simp [intOf]; omega
    · obtain rfl : j = 6 := by omega
      have c15 : wr.cell? ⟨w.heap.size, 15, none⟩ = some pd := V1.cell rfl
      rcases hp with ⟨rfl, rfl⟩ | ⟨ad, cap, rfl, hd⟩
      · go_wp2_with (first
          | (refine ld_u rfl _ rfl (w.heap.size + 1 + 1) rfl V4 ?_; go_frame)
          | (refine st_u rfl _ _ rfl (w.heap.size + 1) rfl (hj e i 6) (.slice none 0 0) rfl V2 ⟨none, 0, 0, rfl⟩ ?_; intro w5 x5 g5 s5))
        (try simp only [Exit.inBlock, Exit.then]); refine bodyPost_ret (ret39 rfl _ _ rfl x5) rfl ?_
        exact ⟨_, rfl, Pl.nil _, gnew G g5 (fun k e => by cases e; omega)⟩
      · have hsM : w.heap.size + 1 + 1 + 1 ≤ wr.heap.size := by have := V4.lt; omega
        have HD : Hid (∀ wz : World, w.grownBy wz none → ∀ j, j < l.length → ∃ b off, ad = ⟨b, off, none⟩ ∧ wz.cell? ⟨b, off + j, none⟩ = some (encU l[j]!)) := fun wz g j hj => by obtain ⟨b, off, e1, hb, hc⟩ := hd j hj; exact ⟨b, off, e1, (World.cell?_of_block (g.block b hb (by simp))).trans hc⟩
        obtain ⟨wo, hwo⟩ : ∃ wo, wo = wr := ⟨_, rfl⟩
        subst hwo
        obtain ⟨M, hM, hMl⟩ : ∃ M, M = wo.heap.size ∧ w.heap.size + 1 + 1 + 1 ≤ M := ⟨_, rfl, hsM⟩
        clear hd Y4 Y2 G4 hS4
        go_wp2_with (refine mk_u rfl _ _ rfl l.length rfl rfl (by omega) ?_; intro w5 m5 g5 s5)
        rw [← hM] at m5 ⊢
        have U4 := V4.f0 g5
        have U1 := V1.f0 g5
        have U2 := V2.f0 g5
        have GG := gtr G g5
        clear V4 V1 V2 G g5 c15 s5 hM
        go_loopw [7] (fun v7 wr => ∃ k : Nat, v7 = .int .i64 k ∧ k ≤ l.length ∧ Mk wr M (l.take k ++ List.replicate (l.length - k) 0) ∧ Bx wr (w.heap.size + 1 + 1) (hj e i 6) (.slice none 0 0) ∧ Eb wr w.heap.size e (.slice (some ad) l.length cap) ∧ Bx wr (w.heap.size + 1) zHd (.slice none 0 0) ∧ w.grownBy wr none) (fun v7 _ => l.length - (intOf v7).toNat)
        case atStart => exact ⟨0, rfl, Nat.zero_le _, by simpa using m5, U4, U1, U2, GG⟩
        case round =>
          obtain ⟨k, rfl, hk, mm, V4, V1, V2, G⟩ := hrel
          have c15 : wr.cell? ⟨w.heap.size, 15, none⟩ = some (.slice (some ad) l.length cap) := V1.cell rfl
          by_cases hlt : k < l.length
          · obtain ⟨b, off, rfl, cx⟩ := HD.out wr G k hlt
            have hln : (l.take k ++ List.replicate (l.length - k) 0).length = l.length := by simp; omega
            have cy := mm.cell k (by rw [hln]; exact hlt)
            have fy : wr.frozen? ⟨M, k, none⟩ = false := frz mm
            have HM : Hid _ := mm.set k l[k]!
            have HT : Hid _ := take_set l k hlt
            have HV : Hid (Bx wr (w.heap.size + 1 + 1) (hj e i 6) (.slice none 0 0) ∧ Eb wr w.heap.size e (.slice (some ⟨b, off, none⟩) l.length cap) ∧ Bx wr (w.heap.size + 1) zHd (.slice none 0 0) ∧ w.grownBy wr none) := ⟨V4, V1, V2, G⟩
            clear V4 V1 V2 G mm U4 U1 U2 GG m5
            generalize (l.take k ++ List.replicate (l.length - k) 0) = Z at *
            generalize Z[k]! = z0 at *
            generalize hx : l[k]! = x at *
            go_wp2_with fail
            go_roundw
            case rel =>
              refine ⟨k + 1, by go_num, by omega, ?_, HV.out.1.fr (set_grown _ _ _ _) (by simp; omega), HV.out.2.1.fr (set_grown _ _ _ _) (by simp; omega), HV.out.2.2.1.fr (set_grown _ _ _ _) (by simp; omega), gnew HV.out.2.2.2 (set_grown _ _ _ _) (fun k e => by cases e; omega)⟩
              rw [← HT.out]
              exact HM.out
            case measure => simp [intOf]; omega
          · obtain rfl : k = l.length := by omega
            have hpm : Pl wr (.slice (some ⟨M, 0, none⟩) l.length l.length) l := by
              have := mm.pl l.length (by simp)
              simpa using this
            go_wp2_with (first
              | (refine sp_u rfl _ _ rfl (w.heap.size + 1 + 1) rfl _ rfl V4 hpm.sl ?_; intro w6 x6 g6 s6)
              | (refine ld_u rfl _ rfl (w.heap.size + 1 + 1) rfl x6 ?_; go_frame)
              | (refine st_u rfl _ _ rfl (w.heap.size + 1) rfl (hj e i 6) _ rfl (V2.fr g6 (by simp)) hpm.sl ?_; intro w7 x7 g7 s7))
            (try simp only [Exit.inBlock, Exit.then]); refine bodyPost_ret (ret39 rfl _ _ rfl x7) rfl ?_
            exact ⟨_, rfl, (hpm.fb g6 (fun k hk e => by have h1 : M = k := Option.some.inj hk; have h2 := Option.some.inj e; omega)).fb g7 (fun k hk e => by have h1 : M = k := Option.some.inj hk; have h2 := Option.some.inj e; omega), gnew (gnew G g6 (fun k e => by cases e; omega)) g7 (fun k e => by cases e; omega)⟩
end Go.Proofs.Ybulkdbmw

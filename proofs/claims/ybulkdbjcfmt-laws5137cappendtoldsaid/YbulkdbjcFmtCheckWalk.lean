import Derived.Test.YbulkdbjcFmtRows
import Derived.Test.YbulkdbjcFmtFacts
import Derived.ProofKit
import Derived.WalkSpells
import Derived.Stop.LaidErr
namespace Go.Proofs.YbulkdbjcFmt
open Go.RowKit Go.Extern.Stop Go.Stop Go.Extern

theorem is_wrap_same (pb po : Nat) (b : Addr) (w : World) (h1 : w.cell? ⟨pb, po + 1, none⟩ = some (.iface 76 (.pointer (some b)))) :
    Calls Ybaf.prog 16 #[.iface 106 (.pointer (some ⟨pb, po, none⟩)), .iface 76 (.pointer (some b))] w fun e w' => e = .returned (.bool true) ∧ w' = w := by
  obtain ⟨i, hi, hcmp⟩ := Option.map_eq_some_iff.1 Ybaf.isComp
  obtain ⟨j, hj, hjs⟩ := Option.map_eq_some_iff.1 Ybaf.isSize
  have tT := Ybaf.typeOf26
  have cT := Ybaf.comp79
  have mR := Ybaf.isMethodComparable
  have mU := Ybaf.methodUnwrap
  have nE := Ybaf.noIsE
  have nW := Ybaf.noIsW
  have uW := Ybaf.hasUnwrapW
  have heq := run_eql_iface_ptr_same (P := Ybaf.prog) w b Ybaf.underlying35 Ybaf.underlying76 hi hcmp hj
  have hty := run_eql_iface_types (P := Ybaf.prog) 106 76 (.pointer (some ⟨pb, po, none⟩)) (.pointer (some b)) Ybaf.underlying35 (by decide) w
  go_enter Ybaf.func16, Ybaf.ntmps16
  go_wp2
  refine wp_loop_rounds 2 ?_
  rw [rounds_succ]
  go_wp2
  rw [rounds_succ]
  go_wp2
  go_ret
  exact ⟨rfl, rfl⟩

/-- The world behind the refusal: the boxed timestamp, the variadic slice's block, the new wrapError's; one draw. -/
theorem checkWire_neg (F : Interp) (n l : Int) (a : Addr) (s : ByteArray) (w : World) (hF : F.answers w.tape) (hn : n < 0) (hg : w.cell? ⟨1, 0, none⟩ = some (.iface 76 (.pointer (some a)))) (hs : w.cell? a = some (.string s)) :
    Calls Ybaf.prog 17 #[.agg #[.int .i64 n, .int .u32 l]] w fun e w' => e = .returned (.iface 106 (.pointer (some ⟨w.heap.size + 1 + 1, 0, none⟩))) ∧ w'.cell? ⟨w.heap.size + 1 + 1, 0 + 1, none⟩ = some (.iface 76 (.pointer (some a))) ∧ Below w.heap.size w w' := by
  have hF' : ∀ i name reading k range, w.tape i (.extern (word name reading k) range) = F name reading k := hF
  have h1s : 1 < w.heap.size := World.block_lt_of_cell? w _ hg
  have has : a.block < w.heap.size := World.block_lt_of_cell? w _ hs
  have h1s' : 1 < w.heap.size + 1 := by omega
  have hop : ∀ o o', (FmtStop.operand "fmt.errorf" true 119 false (.iface 76 (.pointer (some a)))).run Ybaf.prog ((w.alloc o).alloc o') = .ok (Ybaf.plain76, s.data.toList) ((w.alloc o).alloc o') := fun o o' =>
    Ybaf.opPlain76_119w "fmt.errorf" a s _ (((((Below.refl _ w).alloc (Nat.le_refl _) o).alloc (by simp) o').cell has).trans hs)
  have f1 := Ybaf.call35
  have f2 := Ybaf.guard
  have f3 := Ybaf.fmt0
  have f4 := Ybaf.fmt0r
  have f5 := Ybaf.op2_100w
  have f6 := Ybaf.ptr76
  have f7 := Ybaf.elem76
  have f8 := Ybaf.isError76'
  have f9 := Ybaf.ptr106
  have f10 := Ybaf.elem106
  have f11 := Ybaf.isError106'
  go_enter Ybaf.func17, Ybaf.ntmps17
  go_wp2
  go_ret
  refine ⟨rfl, by go_simp, ?_⟩
  exact ((((Below.refl _ _).alloc (Nat.le_refl _) _).alloc (by simp) _).alloc (by simp; omega) _).drew

theorem checkWire_ok (n l : Int) (w : World) (hn : ¬ n < 0) :
    Calls Ybaf.prog 17 #[.agg #[.int .i64 n, .int .u32 l]] w fun e w' => e = .returned .nilIface ∧ Below w.heap.size w w' := by
  go_enter Ybaf.func17, Ybaf.ntmps17
  go_wp2
  go_ret
  exact ⟨rfl, (Below.refl _ _).alloc (Nat.le_refl _) _⟩

theorem check_neg (F : Interp) (n l : Int) (a : Addr) (s : ByteArray) (w : World) (hF : F.answers w.tape) (hn : n < 0) (hg : w.cell? ⟨1, 0, none⟩ = some (.iface 76 (.pointer (some a)))) (hs : w.cell? a = some (.string s)) :
    Calls Ybaf.prog 5 #[.int .i64 n, .int .u32 l] w fun e w' => e = .returned (.bool true) ∧ Below w.heap.size w w' := by
  have h1s : 1 < w.heap.size := World.block_lt_of_cell? w _ hg
  go_enter Ybaf.func5, Ybaf.ntmps5
  go_wp2_with fail
  refine (checkWire_neg F n l a s w hF hn hg hs).mono ?_
  rintro e w1 ⟨rfl, hc, hb⟩
  have hg1 : w1.cell? ⟨1, 0, none⟩ = some (.iface 76 (.pointer (some a))) := (hb.cell (by exact h1s)).trans hg
  go_wp2_with (go_at_call 16; refine (is_wrap_same _ 0 a _ hc).mono ?_; rintro e w' ⟨rfl, rfl⟩)
  go_ret
  exact ⟨rfl, hb⟩

theorem check_ok (n l : Int) (w : World) (hn : ¬ n < 0) :
    Calls Ybaf.prog 5 #[.int .i64 n, .int .u32 l] w fun e w' => e = .returned (.bool true) ∧ Below w.heap.size w w' := by
  go_enter Ybaf.func5, Ybaf.ntmps5
  go_wp2_with fail
  refine (checkWire_ok n l w (by omega)).mono ?_
  rintro e w1 ⟨rfl, hb⟩
  go_wp2
  go_ret
  exact ⟨rfl, hb⟩

end Go.Proofs.YbulkdbjcFmt

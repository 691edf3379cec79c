import Derived.Test.YbulkdbjcFmtCheckWalk
import Derived.Test.YbulkdbjcFmtTie
import Derived.Test.YbulkdbjcFmtCards
import Derived.ChangeSame
import Derived.ChangeVars
import Derived.JoinedOf
import Derived.RowKit
import Derived.RowKitTokens
import Derived.LaidLaws
import Derived.Stop.JoinedAt
import Derived.Stop.LaidErr
import Derived.Stop.JoinedTold
import Derived.SevenTiedAt
import Derived.WalkSmall
namespace Go.Proofs.YbulkdbjcFmt
open Go.ChangeShapes Go.WideShapes Go.ChangeAt Go.RowKit Go.Kit
open Go.Extern.Stop Go.Stop Go.Extern

theorem own : ownKnob Ybaf.prog.godebug = none := by kernel_rfl
theorem laidOut : laidOutB Ybaf.pinned.checked.prog = true := by kernel_rfl
theorem stops : Ybaf.pinned.checked.prog.stops = ["fmt.errorf"] := by kernel_rfl
theorem stopKnobs : Ybaf.pinned.checked.prog.stopKnobs = [] := by kernel_rfl
theorem quiet (os : Os) : Stop.quiet Ybaf.pinned.checked.prog os := by
  intro k hk
  rw [stopKnobs] at hk
  cases hk

theorem gR : Ybaf.prog.globalNamed "example.com/timeweft/timeweft.ErrRange" = some 1 := by kernel_rfl
theorem gRType : (Ybaf.prog.globals[1]?).map (·.type) = some 35 := by kernel_rfl
theorem cells78 : Ybaf.prog.cellsOf 78 = 1 := by kernel_rfl
theorem cells9 : Ybaf.prog.cellsOf 9 = 1 := by kernel_rfl
theorem star : "*" ++ "errors.errorString" = "*errors.errorString" := by decide
theorem row76 (u : TypeId) (h : Ybaf.prog.typeName? 3 u = some "*errors.errorString") : u = 76 :=
  typeName_ptr_named (nm := "errors.errorString") (by rw [star]; kernel_rfl) (by kernel_rfl) (by decide) u (by rw [star]; exact h)

theorem laid_met (os : Os) (args : Array Value) : laidMet Ybaf.prog Rows.lawS5137CCheckRow.laid ((show World from
    { (World.holding Ybaf.prog os ⟨#[.cells #[.string ⟨#[116, 105, 109, 101, 119, 101, 102, 116, 58, 32, 116, 105, 109, 101, 115, 116, 97, 109, 112, 32, 111, 117, 116, 32, 111, 102, 32, 114, 97, 110, 103, 101]⟩] 78], #[], []⟩) with heap := (World.holding Ybaf.prog os ⟨#[.cells #[.string ⟨#[116, 105, 109, 101, 119, 101, 102, 116, 58, 32, 116, 105, 109, 101, 115, 116, 97, 109, 112, 32, 111, 117, 116, 32, 111, 102, 32, 114, 97, 110, 103, 101]⟩] 78], #[], []⟩).heap.modify 1 fun
      | .cells _ t frozen => .cells #[.iface 76 (.pointer (some ⟨(World.holding Ybaf.prog default ⟨#[], #[], []⟩).heap.size, 0, none⟩))] t frozen
      | o => o }).forCall (fun _ _ => 0) ⟨#[], args, []⟩).memory :=
  laidMet_of_run (ps := [.cell 1 0, .cell (World.holding Ybaf.prog default ⟨#[], #[], []⟩).heap.size 0]) 8 (by kernel_rfl) (by kernel_rfl) (by kernel_rfl)

set_option maxRecDepth 100000 in
theorem check_lifted (os : Os) (started : os.Started) (H : Type) (enc : TypeId × Value → H) :
    ReturnsInTold none {} Ybaf.checked os 5 .any Input.okWide ((OpenSpec.ofChange Rows.lawS5137CCheckSpec).preRow enc Ybaf.prog Ybaf.f5 [] false Rows.lawS5137CCheckRow.laid) (fun F => ((OpenSpec.ofChange Rows.lawS5137CCheckSpec).at F).post enc Ybaf.prog Ybaf.f5 false true false false) (aloneAtReturn Ybaf.prog) nothingAlways := by
  refine returnsInTold_of_row (C := Ybaf.checked) (s := OpenSpec.ofChange Rows.lawS5137CCheckSpec) (by kernel_rfl) own started (by kernel_rfl) Ybaf.func5
    (OpenSpec.witness_stopped_at (enc := enc) (C := Ybaf.checked) false (show World from
    { (World.holding Ybaf.prog os ⟨#[.cells #[.string ⟨#[116, 105, 109, 101, 119, 101, 102, 116, 58, 32, 116, 105, 109, 101, 115, 116, 97, 109, 112, 32, 111, 117, 116, 32, 111, 102, 32, 114, 97, 110, 103, 101]⟩] 78], #[], []⟩) with heap := (World.holding Ybaf.prog os ⟨#[.cells #[.string ⟨#[116, 105, 109, 101, 119, 101, 102, 116, 58, 32, 116, 105, 109, 101, 115, 116, 97, 109, 112, 32, 111, 117, 116, 32, 111, 102, 32, 114, 97, 110, 103, 101]⟩] 78], #[], []⟩).heap.modify 1 fun
      | .cells _ t frozen => .cells #[.iface 76 (.pointer (some ⟨(World.holding Ybaf.prog default ⟨#[], #[], []⟩).heap.size, 0, none⟩))] t frozen
      | o => o }) #[.int .i64 0, .int .u32 0] rfl (by kernel_rfl) (by kernel_rfl) (by kernel_rfl)
      (OpenSpec.preRow_of_B rfl 8 (by kernel_rfl) (by kernel_rfl) (laid_met os _))) ?_
  intro F W base args ds gs before _ hF hval0 hW _ _ _ hL _
  have hval : ∀ (j : Nat) t v, Ybaf.f5.params[j]? = some t → args[j]? = some v → Value.okWide Ybaf.prog W .any base t v := hval0
  have hW' := hW
  obtain ⟨p, q, hA0, hV0, rfl, hfz, hnd⟩ := hW
  have hA : DataW.TrodAll enc Ybaf.prog W 0 (fun _ => true) true Ybaf.f5.params.toList args.toList ds p := hA0
  have hV : DataW.TrodVars enc Ybaf.prog W (fun _ => true) ["example.com/timeweft/timeweft.ErrRange"] gs q := hV0
  rw [Ybaf.params5] at hA hval
  obtain ⟨v0, v1, d0, d1, p0, p1, rfl, rfl, rfl, h0, h1⟩ := trodAll_two hA
  obtain ⟨n, rfl, rfl, rfl, wn⟩ := open_int Ybaf.underlying2 (hval 0 2 v0 rfl rfl) h0
  obtain ⟨l, rfl, rfl, rfl, wl⟩ := open_int Ybaf.underlying39 (hval 1 39 v1 rfl rfl) h1
  obtain ⟨a1, s1, hv1, hc1, hs1, hz1⟩ := laid_sentinel hL gR gRType Ybaf.underlying35 row76 Ybaf.underlying76 Ybaf.underlying78 rfl rfl Ybaf.underlying9 cells78 cells9
  obtain ⟨rfl, rfl⟩ := hV.unique (vars_read1 enc gR gRType Ybaf.underlying35 hv1 trivial _)
  clear hA0 hV0 hval0
  have hg1 : W.cell? ⟨1, 0, none⟩ = some (.iface 76 (.pointer (some a1))) := by simpa using World.var?_cell gR hv1 0
  have fin : ∀ (e : Ending) (W' : World), (e = .returned (.bool true) ∧ Below W.heap.size W W') → ∃ v, e = .returned v ∧ ((OpenSpec.ofChange Rows.lawS5137CCheckSpec).at F.told).post enc Ybaf.prog Ybaf.f5 false true false false W #[.int .i64 n, .int .u32 l] v W' := by
    rintro e W' ⟨rfl, hb⟩
    refine ⟨_, rfl, _, _, _, [], [], [.cell 1 0], hW', trodAll_mk1 (shut_bool Ybaf.underlying4 _), trodAll_mk2 (shut_int Ybaf.underlying2 wn) (shut_int Ybaf.underlying39 wl), vars_read1 enc gR gRType Ybaf.underlying35 (var?_below hb gR (World.block_lt_of_cell? W _ hg1) hv1) trivial _, hb.frame _, fun h => by cases h⟩
  by_cases hn : n < 0
  · exact (check_neg F.told n l a1 s1 W hF hn hg1 hc1).mono fin
  · exact (check_ok n l W hn).mono fin

theorem check_proved : Rows.LawS5137CCheckToldSaid :=
  Claim7.holds_of_told_tied_any_at .later 5 Ybaf.f5 "fmt.errorf" [] [] _ _ _ _ _ (by kernel_rfl) rfl rfl rfl laidOut (by kernel_rfl) rfl ⟨rfl, rfl, rfl, rfl, rfl, rfl, rfl⟩ rfl rfl (by kernel_rfl) (by kernel_rfl) Ybaf.func5 (by kernel_rfl)
    (of_decide_eq_true (by kernel_rfl)) (by unfold Func.isWrapper; first | (rw [if_pos (by decide +kernel)]; kernel_rfl) | (rw [if_neg (by decide +kernel)]; exact ⟨rfl, rfl⟩)) stops.symm rfl stopKnobs.symm (by kernel_rfl)
    (by kernel_rfl) (by kernel_rfl) (by kernel_rfl) (by kernel_rfl) (by kernel_rfl) (by kernel_rfl) (by kernel_rfl) (by kernel_rfl) (by kernel_rfl) rfl (by kernel_rfl) rfl rfl
    rfl rfl
    rfl (by kernel_rfl) (by kernel_rfl) (by kernel_rfl) (by decide) (by kernel_rfl) lawS5137CCheck_row_tie
    (OpenClaim.moreEntering_of (by kernel_rfl) (by kernel_rfl) (by kernel_rfl) (by kernel_rfl) (by kernel_rfl) (by kernel_rfl) (by kernel_rfl) (by kernel_rfl) (by kernel_rfl) (by kernel_rfl))
    ⟨_, WideRow.started_initial, quiet _⟩
    (fun os started _ H enc _ => check_lifted os started H enc)
end Go.Proofs.YbulkdbjcFmt

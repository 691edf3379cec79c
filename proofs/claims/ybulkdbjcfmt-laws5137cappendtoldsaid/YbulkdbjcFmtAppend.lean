import Derived.Test.YbulkdbjcFmtAppendWalk
import Derived.Test.YbulkdbjcFmtCheck
import Derived.ChangeOld
import Derived.Below
namespace Go.Proofs.YbulkdbjcFmt
open Go.ChangeShapes Go.WideShapes Go.ChangeAt Go.RowKit Go.Kit
open Go.Extern.Stop Go.Stop Go.Extern
namespace Append

theorem laidOut' : laidOutB Ybaf.prog = true := by kernel_rfl

theorem laid_met (os : Os) (args : Array Value) : laidMet Ybaf.prog Rows.lawS5137CAppendRow.laid ((show World from
    { (World.holding Ybaf.prog os ⟨#[.cells #[.string ⟨#[116, 105, 109, 101, 119, 101, 102, 116, 58, 32, 116, 105, 109, 101, 115, 116, 97, 109, 112, 32, 111, 117, 116, 32, 111, 102, 32, 114, 97, 110, 103, 101]⟩] 78], #[], []⟩) with heap := (World.holding Ybaf.prog os ⟨#[.cells #[.string ⟨#[116, 105, 109, 101, 119, 101, 102, 116, 58, 32, 116, 105, 109, 101, 115, 116, 97, 109, 112, 32, 111, 117, 116, 32, 111, 102, 32, 114, 97, 110, 103, 101]⟩] 78], #[], []⟩).heap.modify 1 fun
      | .cells _ t frozen => .cells #[.iface 76 (.pointer (some ⟨(World.holding Ybaf.prog default ⟨#[], #[], []⟩).heap.size, 0, none⟩))] t frozen
      | o => o }).forCall (fun _ _ => 0) ⟨#[], args, []⟩).memory :=
  laidMet_of_run (ps := [.cell 1 0, .cell (World.holding Ybaf.prog default ⟨#[], #[], []⟩).heap.size 0]) 8 (by kernel_rfl) (by kernel_rfl) (by kernel_rfl)

theorem inBytes_of {H : Type} {enc : TypeId × Value → H} {w : World} {base : Nat} {spare : Nat → Bool} {held : Bool} {fuel : Nat} {a : Option Addr} {len cap : Nat} {x : DataW H × List MemPlace}
    (h : DataW.trod enc Ybaf.prog w base spare held fuel 67 [.slice a len cap] = some x) : ∃ zs, InBytes w a len zs := by
  rcases open_ints Ybaf.underlying67 Ybaf.underlying5 (by kernel_rfl) h with ⟨hcs, _⟩ | ⟨ad, l, c, zs, hcs, _, hl, hm, hz, _, hcell, _⟩
  · simp at hcs
    obtain ⟨rfl, rfl, rfl⟩ := hcs
    exact ⟨[], rfl, fun h => by omega⟩
  · simp at hcs
    obtain ⟨rfl, rfl, rfl⟩ := hcs
    have hle : len ≤ zs.length := by rw [hz]; split <;> omega
    refine ⟨zs.take len, by simp; omega, fun h0 => ?_⟩
    obtain ⟨b, off, spot⟩ := ad
    have hc0 := hcell 0 (by omega)
    have hspot : spot = none := by simpa [Addr.add] using World.cell?_spot hc0
    subst hspot
    refine ⟨b, off, rfl, World.block_lt_of_cell? w _ hc0, fun j hj => ?_⟩
    have := hcell j (by omega)
    rw [Addr.add_lit] at this
    rw [this]
    congr 2
    simp [List.getD, hj]

set_option maxRecDepth 100000 in
theorem lifted (os : Os) (started : os.Started) (H : Type) (enc : TypeId × Value → H) :
    ReturnsInTold none {} Ybaf.checked os 6 .any Input.okWide ((OpenSpec.ofChange Rows.lawS5137CAppendSpec).preRow enc Ybaf.prog Ybaf.f6 [] false Rows.lawS5137CAppendRow.laid) (fun F => ((OpenSpec.ofChange Rows.lawS5137CAppendSpec).at F).post enc Ybaf.prog Ybaf.f6 false true false false) (aloneAtReturn Ybaf.prog) nothingAlways := by
  refine returnsInTold_of_row (C := Ybaf.checked) (s := OpenSpec.ofChange Rows.lawS5137CAppendSpec) (by kernel_rfl) own started (by kernel_rfl) Ybaf.func6
    (OpenSpec.witness_stopped_at (enc := enc) (C := Ybaf.checked) false (show World from
    { (World.holding Ybaf.prog os ⟨#[.cells #[.string ⟨#[116, 105, 109, 101, 119, 101, 102, 116, 58, 32, 116, 105, 109, 101, 115, 116, 97, 109, 112, 32, 111, 117, 116, 32, 111, 102, 32, 114, 97, 110, 103, 101]⟩] 78], #[], []⟩) with heap := (World.holding Ybaf.prog os ⟨#[.cells #[.string ⟨#[116, 105, 109, 101, 119, 101, 102, 116, 58, 32, 116, 105, 109, 101, 115, 116, 97, 109, 112, 32, 111, 117, 116, 32, 111, 102, 32, 114, 97, 110, 103, 101]⟩] 78], #[], []⟩).heap.modify 1 fun
      | .cells _ t frozen => .cells #[.iface 76 (.pointer (some ⟨(World.holding Ybaf.prog default ⟨#[], #[], []⟩).heap.size, 0, none⟩))] t frozen
      | o => o }) #[.int .i64 0, .int .u32 0, .slice none 0 0] rfl (by kernel_rfl) (by kernel_rfl) (by kernel_rfl)
      (OpenSpec.preRow_of_B rfl 8 (by kernel_rfl) (by kernel_rfl) (laid_met os _))) ?_
  intro F W base args ds gs before _ hF hval0 hW _ _ _ hL _
  have hval : ∀ (j : Nat) t v, Ybaf.f6.params[j]? = some t → args[j]? = some v → Value.okWide Ybaf.prog W .any base t v := hval0
  have hW' := hW
  obtain ⟨p, q, hA0, hV0, rfl, hfz, hnd⟩ := hW
  have hA : DataW.TrodAll enc Ybaf.prog W 0 (fun _ => true) true Ybaf.f6.params.toList args.toList ds p := hA0
  have hV : DataW.TrodVars enc Ybaf.prog W (fun _ => true) ["example.com/timeweft/timeweft.ErrRange"] gs q := hV0
  rw [Ybaf.params6] at hA hval
  obtain ⟨v0, v1, v2, d0, d1, d2, p0, p1, p2, rfl, rfl, rfl, h0, h1, h2⟩ := trodAll_three hA
  obtain ⟨n, rfl, rfl, rfl, wn⟩ := open_int Ybaf.underlying2 (hval 0 2 v0 rfl rfl) h0
  obtain ⟨l, rfl, rfl, rfl, wl⟩ := open_int Ybaf.underlying39 (hval 1 39 v1 rfl rfl) h1
  obtain ⟨a2, len, cap, rfl⟩ := okWide_slice Ybaf.underlying67 (hval 2 67 v2 rfl rfl)
  have k2 := h2
  have lt2 : ∀ x ∈ p2, x.block < W.heap.size := by obtain ⟨m, hm⟩ := k2; exact DataW.trod_lt m _ _ _ hm
  obtain ⟨zs, hin⟩ : ∃ zs, InBytes W a2 len zs := by
    obtain ⟨fuel, hf⟩ := h2
    exact inBytes_of (by simpa [Value.cells] using hf)
  obtain ⟨a1, s1, hv1, hc1, hs1, hz1⟩ := laid_sentinel hL gR gRType Ybaf.underlying35 row76 Ybaf.underlying76 Ybaf.underlying78 rfl rfl Ybaf.underlying9 cells78 cells9
  obtain ⟨rfl, rfl⟩ := hV.unique (vars_read1 enc gR gRType Ybaf.underlying35 hv1 trivial _)
  clear hA0 hV0 hval0
  have hg1 : W.cell? ⟨1, 0, none⟩ = some (.iface 76 (.pointer (some a1))) := by simpa using World.var?_cell gR hv1 0
  have fin : ∀ (e : Ending) (W' : World), (e = .returned (.bool true) ∧ Below W.heap.size W W') → ∃ v, e = .returned v ∧ ((OpenSpec.ofChange Rows.lawS5137CAppendSpec).at F.told).post enc Ybaf.prog Ybaf.f6 false true false false W #[.int .i64 n, .int .u32 l, .slice a2 len cap] v W' := by
    rintro e W' ⟨rfl, hb⟩
    exact ⟨_, rfl, _, _, _, [], _, [.cell 1 0], hW', trodAll_mk1 (shut_bool Ybaf.underlying4 _), trodAll_mk3 (shut_int Ybaf.underlying2 wn) (shut_int Ybaf.underlying39 wl) (Below.trod laidOut' (by kernel_rfl) (of_decide_eq_true (by kernel_rfl)) k2 hb lt2), vars_read1 enc gR gRType Ybaf.underlying35 (var?_below hb gR (World.block_lt_of_cell? W _ hg1) hv1) trivial _, hb.frame _, fun h => by cases h⟩
  have bn : -9223372036854775808 ≤ n ∧ n < 9223372036854775808 := by
    simp [Lit.wf, IntKind.min, IntKind.max, IntKind.signed, IntKind.bits] at wn
    omega
  have bl : 0 ≤ l ∧ l < 4294967296 := by
    simp [Lit.wf, IntKind.min, IntKind.max, IntKind.signed, IntKind.bits] at wl
    omega
  by_cases hlen : 1024 < len
  · exact (append_long n l a2 len cap W hlen).mono fin
  · by_cases hn : n < 0
    · exact (append_neg F.told n l a2 len cap zs a1 s1 W hF hn (by omega) hin hg1 hc1).mono fin
    · exact (append_ok n l a2 len cap zs W (by omega) bn.2 bl.1 bl.2 (by omega) hin).mono fin

theorem proved : Rows.LawS5137CAppendToldSaid :=
  Claim7.holds_of_told_tied_any_at .later 6 Ybaf.f6 "fmt.errorf" [] [] _ _ _ _ _ (by kernel_rfl) rfl rfl rfl laidOut (by kernel_rfl) rfl ⟨rfl, rfl, rfl, rfl, rfl, rfl, rfl⟩ rfl rfl (by kernel_rfl) (by kernel_rfl) Ybaf.func6 (by kernel_rfl)
    (of_decide_eq_true (by kernel_rfl)) (by unfold Func.isWrapper; first | (rw [if_pos (by decide +kernel)]; kernel_rfl) | (rw [if_neg (by decide +kernel)]; exact ⟨rfl, rfl⟩)) stops.symm rfl stopKnobs.symm (by kernel_rfl)
    (by kernel_rfl) (by kernel_rfl) (by kernel_rfl) (by kernel_rfl) (by kernel_rfl) (by kernel_rfl) (by kernel_rfl) (by kernel_rfl) (by kernel_rfl) rfl (by kernel_rfl) rfl rfl
    rfl rfl
    rfl (by kernel_rfl) (by kernel_rfl) (by kernel_rfl) (by decide) (by kernel_rfl) lawS5137CAppend_row_tie
    (OpenClaim.moreEntering_of (by kernel_rfl) (by kernel_rfl) (by kernel_rfl) (by kernel_rfl) (by kernel_rfl) (by kernel_rfl) (by kernel_rfl) (by kernel_rfl) (by kernel_rfl) (by kernel_rfl))
    ⟨_, WideRow.started_initial, quiet _⟩
    (fun os started _ H enc _ => lifted os started H enc)
end Append
end Go.Proofs.YbulkdbjcFmt

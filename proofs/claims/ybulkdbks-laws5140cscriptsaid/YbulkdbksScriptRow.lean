import Derived.Test.YbulkdbksScript
import Derived.OpenShut
import Derived.ShutString
import Derived.ChangeOld
import Derived.Below
import Derived.SizedLaws
import Derived.Deep.SlicePairs
import Derived.Test.YbulkdbksRows
namespace Go.Proofs.Ybulkdbks
open Go.ChangeShapes Go.WideShapes Go.ChangeAt Go.RowKit
namespace Script

theorem own : ownKnob Yba.prog.godebug = none := by kernel_rfl
theorem laidOut : laidOutB Yba.prog = true := by kernel_rfl
theorem cells81 : Yba.prog.cellsOf 81 = 5 := by kernel_rfl
theorem cells5 : Yba.prog.cellsOf 5 = 1 := by kernel_rfl

theorem wf_u8 {z : Int} (h : (Lit.int .u8 z).wf = true) : 0 ≤ z ∧ z < 256 := by
  simp [Lit.wf, IntKind.min, IntKind.max, IntKind.signed, IntKind.bits] at h
  omega

theorem list5 {α : Type} (l : List α) (h : l.length = 5) : ∃ a b c d e, l = [a, b, c, d, e] := by
  match l, h with
  | [a, b, c, d, e], _ => exact ⟨a, b, c, d, e, rfl⟩

theorem u8_of {H : Type} {enc : TypeId × Value → H} {w : World} {base n : Nat} {spare : Nat → Bool} {held : Bool} {v : Value} {y : DataW H × List MemPlace} (h : DataW.trod enc Yba.prog w base spare held n 5 [v] = some y) : ∃ z : Int, v = .int .u8 z ∧ 0 ≤ z ∧ z < 256 := by
  obtain ⟨z, h1, _, hw⟩ := DataW.trod_int Yba.underlying5 h
  simp at h1
  exact ⟨z, h1, wf_u8 hw⟩

set_option maxRecDepth 100000 in
theorem opsAt_of {H : Type} {enc : TypeId × Value → H} {w : World} {base : Nat} {spare : Nat → Bool} {held : Bool} {fuel : Nat} {a : Option Addr} {len cap : Nat} {x : DataW H × List MemPlace}
    (h : DataW.trod enc Yba.prog w base spare held fuel 45 [.slice a len cap] = some x) : OpsAt w a len := by
  rcases Deep.open_slice Yba.underlying45 h with ⟨hcs, _⟩ | ⟨ad, l, c, m, n, D, Pl, hcs, hb, hl, hm, hmm, _, hx⟩
  · simp at hcs
    obtain ⟨rfl, rfl, rfl⟩ := hcs
    intro h0
    omega
  · simp at hcs
    obtain ⟨rfl, rfl, rfl⟩ := hcs
    have hlm : len ≤ m := by rw [hmm]; split <;> omega
    intro h0
    have each : ∀ i, i < len → ∃ v0 v1 v2 v3 v4 : Int, (0 ≤ v0 ∧ v0 < 256) ∧ (0 ≤ v1 ∧ v1 < 256) ∧ (0 ≤ v2 ∧ v2 < 256) ∧ (0 ≤ v3 ∧ v3 < 256) ∧ (0 ≤ v4 ∧ v4 < 256) ∧
        w.cell? ((ad.add (i * 5)).add 0) = some (.int .u8 v0) ∧ w.cell? ((ad.add (i * 5)).add 1) = some (.int .u8 v1) ∧ w.cell? ((ad.add (i * 5)).add 2) = some (.int .u8 v2) ∧ w.cell? ((ad.add (i * 5)).add 3) = some (.int .u8 v3) ∧ w.cell? ((ad.add (i * 5)).add 4) = some (.int .u8 v4) := by
      intro i hi
      obtain ⟨cs', h1, h2⟩ := hx i (by omega)
      rw [cells81] at h1
      obtain ⟨_, hlen, hcell⟩ := World.cells?_some h1
      obtain ⟨xs, k, hk, hxy, _, hxl, hf⟩ := DataW.trod_struct Yba.underlying81 h2
      obtain ⟨u0, u1, u2, u3, u4, rfl⟩ := list5 cs' hlen
      obtain ⟨y0, y1, y2, y3, y4, rfl⟩ := list5 xs hxl
      have g0 := hf 0 _ rfl
      have g1 := hf 1 _ rfl
      have g2 := hf 2 _ rfl
      have g3 := hf 3 _ rfl
      have g4 := hf 4 _ rfl
      simp [cells5] at g0 g1 g2 g3 g4
      obtain ⟨z0, rfl, p0⟩ := u8_of g0
      obtain ⟨z1, rfl, p1⟩ := u8_of g1
      obtain ⟨z2, rfl, p2⟩ := u8_of g2
      obtain ⟨z3, rfl, p3⟩ := u8_of g3
      obtain ⟨z4, rfl, p4⟩ := u8_of g4
      exact ⟨z0, z1, z2, z3, z4, p0, p1, p2, p3, p4, hcell 0 (by omega), hcell 1 (by omega), hcell 2 (by omega), hcell 3 (by omega), hcell 4 (by omega)⟩
    obtain ⟨b, off, spot⟩ := ad
    obtain ⟨_, _, _, _, _, _, _, _, _, _, c0, _⟩ := each 0 h0
    have hspot : spot = none := by simpa [Addr.add] using World.cell?_spot c0
    subst hspot
    have hlt : b < w.heap.size := World.block_lt_of_cell? w _ c0
    refine ⟨b, off, rfl, hlt, fun i hi => ?_⟩
    obtain ⟨z0, z1, z2, z3, z4, p0, p1, p2, p3, p4, c0, c1, c2, c3, c4⟩ := each i hi
    rw [Addr.add_lit, Addr.add_lit] at c0 c1 c2 c3 c4
    exact ⟨z0, z1, z2, z3, z4, p0, p1, p2, p3, p4, c0, c1, c2, c3, c4⟩

set_option maxHeartbeats 2000000 in
set_option maxRecDepth 1000000 in
theorem walk (a b c : Int) (ha : 0 ≤ a ∧ a < 256) (hb : 0 ≤ b ∧ b < 256) (hc : 0 ≤ c ∧ c < 256) (ao : Option Addr) (n cap : Nat) (w : World) (ho : OpsAt w ao n) :
    Calls Yba.prog 5 #[.int .u8 a, .int .u8 b, .int .u8 c, .slice ao n cap] w fun e w' => e = .returned (.bool true) ∧ Below w.heap.size w w' := by
  by_cases h : 400 < n
  · have hd : decide ((400 : Int) < (n : Int)) = true := by simp; omega
    go_enter Yba.func5, Yba.ntmps5
    go_wp2
    go_ret
    exact ⟨rfl, Below.refl _ _⟩
  · exact sc_any w a b c ha hb hc ao n cap (by omega) ho

set_option maxRecDepth 100000 in
theorem lifted (os : Os) (started : os.Started) (H : Type) (enc : TypeId × Value → H) :
    ReturnsInHanded {} Yba.checked os 5 .any (Rows.lawS5140CScriptSpec.pre6 enc Yba.prog Yba.f5 Rows.lawS5140CScriptRow.domain false) (Rows.lawS5140CScriptSpec.post enc Yba.prog Yba.f5 false true false false) := by
  refine returnsInHanded_of_change_sized (C := Yba.checked) own started (by kernel_rfl) Yba.func5
    (ChangeSpec.witness6 (enc := enc) (C := Yba.checked) false ⟨#[], #[.int .u8 0, .int .u8 0, .int .u8 0, .slice none 0 0], []⟩ 8 (by kernel_rfl) (by kernel_rfl) (by kernel_rfl) (by kernel_rfl)) ?_
  intro W base args ds gs before hval0 hW hcnd hsz0 _
  have hval : ∀ (j : Nat) t v, Yba.f5.params[j]? = some t → args[j]? = some v → Value.okWide Yba.prog W .any base t v := hval0
  have hW' := hW
  obtain ⟨p, q, hA0, hV, rfl, hfz, hnd⟩ := hW
  have hA : DataW.TrodAll enc Yba.prog W 0 (fun _ => true) true Yba.f5.params.toList args.toList ds p := hA0
  rw [Yba.params5] at hA hval
  obtain ⟨v0, vs0, d0, ds0, p0, q0, hargs, rfl, rfl, h0, r0⟩ := trodAll_cons hA
  obtain ⟨v1, vs1, d1, ds1, p1, q1, rfl, rfl, rfl, h1, r1⟩ := trodAll_cons r0
  obtain ⟨v2, vs2, d2, ds2, p2, q2, rfl, rfl, rfl, h2, r2⟩ := trodAll_cons r1
  obtain ⟨v3, vs3, d3, ds3, p3, q3, rfl, rfl, rfl, h3, r3⟩ := trodAll_cons r2
  obtain ⟨rfl, rfl, rfl⟩ := trodAll_nil r3
  obtain rfl : args = #[v0, v1, v2, v3] := by cases args; simp_all
  obtain ⟨rfl, rfl⟩ := trodVars_none hV
  have k0 := h0
  have k1 := h1
  have k2 := h2
  have k3 := h3
  obtain ⟨z0, rfl, rfl, rfl, w0⟩ := open_int Yba.underlying5 (hval 0 5 v0 rfl rfl) h0
  obtain ⟨z1, rfl, rfl, rfl, w1⟩ := open_int Yba.underlying5 (hval 1 5 v1 rfl rfl) h1
  obtain ⟨z2, rfl, rfl, rfl, w2⟩ := open_int Yba.underlying5 (hval 2 5 v2 rfl rfl) h2
  obtain ⟨a3, len3, cap3, rfl⟩ := okWide_slice Yba.underlying45 (hval 3 45 v3 rfl rfl)
  have lt3 : ∀ x ∈ p3, x.block < W.heap.size := by obtain ⟨m, hm⟩ := k3; exact DataW.trod_lt m _ _ _ hm
  have ho : OpsAt W a3 len3 := by
    obtain ⟨fuel, hf⟩ := h3
    exact opsAt_of (by simpa [Value.cells] using hf)
  clear hA0 hval0 hsz0
  refine (walk z0 z1 z2 (wf_u8 w0) (wf_u8 w1) (wf_u8 w2) a3 len3 cap3 W ho).mono fun e W' ⟨he, bel⟩ => ?_
  subst he
  exact ⟨_, rfl, _, _, _, [], _, [], hW', trodAll_mk1 (shut_bool Yba.underlying4 _), (trodAll_cons_mk (shut_int Yba.underlying5 w0) (trodAll_cons_mk (shut_int Yba.underlying5 w1) (trodAll_cons_mk (shut_int Yba.underlying5 w2) (trodAll_cons_mk (Below.trod laidOut (by kernel_rfl) (of_decide_eq_true (by kernel_rfl)) k3 bel lt3) trodAll_mk0)))), rfl, bel.frame _, fun h => by cases h⟩

theorem proved : Rows.LawS5140CScriptSaid :=
  OpenClaim.holds_of_wide 5 Yba.f5 rfl rfl rfl rfl rfl rfl rfl ⟨rfl, rfl, rfl, rfl, rfl⟩ rfl rfl rfl rfl rfl (by kernel_rfl) Yba.func5 (by kernel_rfl)
    (of_decide_eq_true (by kernel_rfl)) (by unfold Func.isWrapper; first | (rw [if_pos (by decide +kernel)]; kernel_rfl) | (rw [if_neg (by decide +kernel)]; exact ⟨rfl, rfl⟩))
    (fun os started H enc _ => lifted os started H enc)
end Script
end Go.Proofs.Ybulkdbks

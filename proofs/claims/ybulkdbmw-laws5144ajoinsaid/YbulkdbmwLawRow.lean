import Derived.Test.YbulkdbmwLaw
import Derived.OpenShut
import Derived.ShutString
import Derived.ChangeOld
import Derived.Below
import Derived.SizedLaws
import Derived.Deep.SlicePairs
import Derived.Test.YbulkdbmwRows
namespace Go.Proofs.Ybulkdbmw
open Go.ChangeShapes Go.WideShapes Go.ChangeAt Go.RowKit
namespace Join

theorem own : ownKnob Yba.prog.godebug = none := by kernel_rfl
theorem laidOut : laidOutB Yba.prog = true := by kernel_rfl
theorem cells28 : Yba.prog.cellsOf 28 = 16 := by kernel_rfl
theorem cells5 : Yba.prog.cellsOf 5 = 1 := by kernel_rfl
theorem cells24 : Yba.prog.cellsOf 24 = 1 := by kernel_rfl
theorem cells25 : Yba.prog.cellsOf 25 = 1 := by kernel_rfl
theorem cells26 : Yba.prog.cellsOf 26 = 6 := by kernel_rfl
theorem cells4 : Yba.prog.cellsOf 4 = 1 := by kernel_rfl
theorem cells23 : Yba.prog.cellsOf 23 = 1 := by kernel_rfl

theorem wf_u8 {z : Int} (h : (Lit.int .u8 z).wf = true) : 0 ≤ z ∧ z < 256 := by
  simp [Lit.wf, IntKind.min, IntKind.max, IntKind.signed, IntKind.bits] at h
  omega

theorem list16 {α : Type} (l : List α) (h : l.length = 16) : ∃ a0 a1 a2 a3 a4 a5 a6 a7 a8 a9 a10 a11 a12 a13 a14 a15, l = [a0, a1, a2, a3, a4, a5, a6, a7, a8, a9, a10, a11, a12, a13, a14, a15] := by
  match l, h with
  | [a0, a1, a2, a3, a4, a5, a6, a7, a8, a9, a10, a11, a12, a13, a14, a15], _ => exact ⟨a0, a1, a2, a3, a4, a5, a6, a7, a8, a9, a10, a11, a12, a13, a14, a15, rfl⟩
theorem list11 {α : Type} (l : List α) (h : l.length = 11) : ∃ a0 a1 a2 a3 a4 a5 a6 a7 a8 a9 a10, l = [a0, a1, a2, a3, a4, a5, a6, a7, a8, a9, a10] := by
  match l, h with
  | [a0, a1, a2, a3, a4, a5, a6, a7, a8, a9, a10], _ => exact ⟨a0, a1, a2, a3, a4, a5, a6, a7, a8, a9, a10, rfl⟩
theorem list6 {α : Type} (l : List α) (h : l.length = 6) : ∃ a0 a1 a2 a3 a4 a5, l = [a0, a1, a2, a3, a4, a5] := by
  match l, h with
  | [a0, a1, a2, a3, a4, a5], _ => exact ⟨a0, a1, a2, a3, a4, a5, rfl⟩

section
variable {H : Type} {enc : TypeId × Value → H} {w : World} {base n : Nat} {spare : Nat → Bool} {held : Bool} {v : Value} {y : DataW H × List MemPlace}
theorem u8_of (h : DataW.trod enc Yba.prog w base spare held n 5 [v] = some y) : ∃ z : Int, v = .int .u8 z ∧ 0 ≤ z ∧ z < 256 := by
  obtain ⟨z, h1, _, hw⟩ := DataW.trod_int Yba.underlying5 h
  simp at h1
  exact ⟨z, h1, wf_u8 hw⟩
theorem u64_of (h : DataW.trod enc Yba.prog w base spare held n 24 [v] = some y) : ∃ z : Int, v = .int .u64 z := by
  obtain ⟨z, h1, _, hw⟩ := DataW.trod_int Yba.underlying24 h
  simp at h1
  exact ⟨z, h1⟩
theorem u32_of (h : DataW.trod enc Yba.prog w base spare held n 25 [v] = some y) : ∃ z : Int, v = .int .u32 z := by
  obtain ⟨z, h1, _, hw⟩ := DataW.trod_int Yba.underlying25 h
  simp at h1
  exact ⟨z, h1⟩
theorem bool_of (h : DataW.trod enc Yba.prog w base spare held n 4 [v] = some y) : ∃ z : Bool, v = .bool z := by
  obtain ⟨z, h1, _⟩ := DataW.trod_bool Yba.underlying4 h
  simp at h1
  exact ⟨z, h1⟩
theorem arr_of {a0 a1 a2 a3 a4 a5 : Value} (h : DataW.trod enc Yba.prog w base spare held n 26 [a0, a1, a2, a3, a4, a5] = some y) : ∃ z0 z1 z2 z3 z4 z5 : Int, a0 = .int .u32 z0 ∧ a1 = .int .u32 z1 ∧ a2 = .int .u32 z2 ∧ a3 = .int .u32 z3 ∧ a4 = .int .u32 z4 ∧ a5 = .int .u32 z5 := by
  obtain ⟨xs, k, _, _, _, hxl, hf⟩ := DataW.trod_array Yba.underlying26 h
  obtain ⟨y0, y1, y2, y3, y4, y5, rfl⟩ := list6 xs hxl
  have g0 := hf 0 (by omega)
  have g1 := hf 1 (by omega)
  have g2 := hf 2 (by omega)
  have g3 := hf 3 (by omega)
  have g4 := hf 4 (by omega)
  have g5 := hf 5 (by omega)
  simp [cells25] at g0 g1 g2 g3 g4 g5
  obtain ⟨z0, rfl⟩ := u32_of g0
  obtain ⟨z1, rfl⟩ := u32_of g1
  obtain ⟨z2, rfl⟩ := u32_of g2
  obtain ⟨z3, rfl⟩ := u32_of g3
  obtain ⟨z4, rfl⟩ := u32_of g4
  obtain ⟨z5, rfl⟩ := u32_of g5
  exact ⟨z0, z1, z2, z3, z4, z5, rfl, rfl, rfl, rfl, rfl, rfl⟩

theorem pick {P : Nat → Int → Prop} {n : Nat} (h : ∀ i, i < n → ∃ z, P i z) : ∃ l : List Int, l.length = n ∧ ∀ i, i < n → P i l[i]! := by
  induction n with
  | zero => exact ⟨[], rfl, fun i hi => absurd hi (Nat.not_lt_zero _)⟩
  | succ n ih =>
    obtain ⟨l, hl, hP⟩ := ih (fun i hi => h i (by omega))
    obtain ⟨z, hz⟩ := h n (by omega)
    refine ⟨l ++ [z], by simp [hl], fun i hi => ?_⟩
    by_cases e : i = n
    · subst e
      rw [getElem!_pos _ i (by simp [hl])]
      simp [← hl]
      rw [hl]; exact hz
    · have := hP i (by omega)
      rw [getElem!_pos _ i (by omega)] at this
      rw [getElem!_pos _ i (by simp [hl]; omega), List.getElem_append_left (by omega)]
      exact this

theorem pv_of (h : DataW.trod enc Yba.prog w base spare held n 23 [v] = some y) : ∃ l, Pv w v l := by
  rcases Deep.open_slice Yba.underlying23 h with ⟨hcs, _⟩ | ⟨ad, len, c, m, k, D, Pls, hcs, hb, hl, hm, hmm, _, hx⟩
  · simp at hcs
    exact ⟨[], Or.inl ⟨hcs, rfl⟩⟩
  · simp at hcs
    have hlm : len ≤ m := by rw [hmm]; split <;> omega
    obtain ⟨l, hll, hP⟩ := pick (P := fun i z => w.cell? ((ad.add (i * 1)).add 0) = some (.int .u32 z)) (n := len) (fun i hi => by
      obtain ⟨cs', h1, h2⟩ := hx i (by omega)
      rw [cells25] at h1
      obtain ⟨_, hlen, hcell⟩ := World.cells?_some h1
      match cs', hlen with
      | [u0], _ =>
        obtain ⟨z, rfl⟩ := u32_of h2
        exact ⟨z, hcell 0 (by omega)⟩)
    refine ⟨l, Or.inr ⟨ad, c, by rw [hcs, hll], fun j hj => ?_⟩⟩
    have hc := hP j (by omega)
    have hc0 := hP 0 (by omega)
    obtain ⟨b, off, spot⟩ := ad
    have hspot : spot = none := by simpa [Addr.add] using World.cell?_spot hc0
    subst hspot
    rw [Addr.add_lit, Addr.add_lit] at hc
    exact ⟨b, off, rfl, World.block_lt_of_cell? w _ hc, by simpa using hc⟩
end

theorem pickE {P : Nat → Ei → Prop} {n : Nat} (h : ∀ i, i < n → ∃ z, P i z) : ∃ es : Nat → Ei, ∀ i, i < n → P i (es i) := by
  classical
  refine ⟨fun i => if hi : i < n then (h i hi).choose else ⟨⟨0, 0, 0, 0, 0, 0, 0, 0, 0, 0, 0, 0, 0, 0, false⟩, .slice none 0 0, []⟩, fun i hi => ?_⟩
  dsimp only
  rw [dif_pos hi]
  exact (h i hi).choose_spec

set_option maxRecDepth 100000 in
set_option maxHeartbeats 1600000 in
theorem ents_of {H : Type} {enc : TypeId × Value → H} {w : World} {base : Nat} {spare : Nat → Bool} {held : Bool} {fuel : Nat} {a : Option Addr} {len cap : Nat} {x : DataW H × List MemPlace}
    (h : DataW.trod enc Yba.prog w base spare held fuel 22 [.slice a len cap] = some x) : ∃ es, EntsAt w a len es := by
  rcases Deep.open_slice Yba.underlying22 h with ⟨hcs, _⟩ | ⟨ad, l, c, m, n, D, Pls, hcs, hb, hl, hm, hmm, _, hx⟩
  · simp at hcs
    obtain ⟨rfl, rfl, rfl⟩ := hcs
    exact ⟨fun _ => ⟨⟨0, 0, 0, 0, 0, 0, 0, 0, 0, 0, 0, 0, 0, 0, false⟩, .slice none 0 0, []⟩, fun i hi => absurd hi (Nat.not_lt_zero _)⟩
  · simp at hcs
    obtain ⟨rfl, rfl, rfl⟩ := hcs
    have hlm : len ≤ m := by rw [hmm]; split <;> omega
    have hsp : ∀ i, i < len → ad.spot = none := fun i hi => by
      obtain ⟨cs', h1, _⟩ := hx 0 (by omega)
      rw [cells28] at h1
      obtain ⟨_, hlen, hcell⟩ := World.cells?_some h1
      have c := (hcell 0 (by omega)).trans (List.getElem?_eq_getElem (by omega))
      simpa [Addr.add] using World.cell?_spot c
    refine pickE (P := fun i z => ∃ b off, some ad = some ⟨b, off, none⟩ ∧ b < w.heap.size ∧ EnAt w b (off + i * 16) z) (fun i hi => ?_)
    obtain ⟨cs', h1, h2⟩ := hx i (by omega)
    rw [cells28] at h1
    obtain ⟨_, hlen, hcell⟩ := World.cells?_some h1
    obtain ⟨xs, k, hk, hxy, _, hxl, hf⟩ := DataW.trod_struct Yba.underlying28 h2
    obtain ⟨u0, u1, u2, u3, u4, u5, u6, u7, u8, u9, u10, u11, u12, u13, u14, u15, rfl⟩ := list16 cs' hlen
    obtain ⟨y0, y1, y2, y3, y4, y5, y6, y7, y8, y9, y10, rfl⟩ := list11 xs hxl
    have g0 := hf 0 _ rfl
    have g1 := hf 1 _ rfl
    have g2 := hf 2 _ rfl
    have g3 := hf 3 _ rfl
    have g4 := hf 4 _ rfl
    have g5 := hf 5 _ rfl
    have g6 := hf 6 _ rfl
    have g7 := hf 7 _ rfl
    have g8 := hf 8 _ rfl
    have g9 := hf 9 _ rfl
    have g10 := hf 10 _ rfl
    simp [cells5, cells24, cells25, cells26, cells4, cells23] at g0 g1 g2 g3 g4 g5 g6 g7 g8 g9 g10
    obtain ⟨z0, rfl, p0⟩ := u8_of g0
    obtain ⟨z1, rfl⟩ := u64_of g1
    obtain ⟨z2, rfl⟩ := u64_of g2
    obtain ⟨q0, q1, q2, q3, q4, q5, rfl, rfl, rfl, rfl, rfl, rfl⟩ := arr_of g3
    obtain ⟨z4, rfl⟩ := u32_of g4
    obtain ⟨z5, rfl⟩ := u64_of g5
    obtain ⟨z6, rfl⟩ := u64_of g6
    obtain ⟨z7, rfl⟩ := u64_of g7
    obtain ⟨z8, rfl⟩ := u64_of g8
    obtain ⟨z9, rfl⟩ := bool_of g9
    obtain ⟨ll, hpl⟩ := pv_of g10
    have c0 := hcell 0 (by omega)
    have hspot := hsp i hi
    obtain ⟨b, off, spot⟩ := ad
    dsimp only at hspot
    subst hspot
    rw [Addr.add_lit, Addr.add_lit] at c0
    refine ⟨⟨⟨z0, z1, z2, q0, q1, q2, q3, q4, q5, z4, z5, z6, z7, z8, z9⟩, u15, ll⟩, b, off, rfl, World.block_lt_of_cell? w _ c0, ⟨fun j v hv => ?_, p0.1, p0.2, hpl⟩⟩
    have hj : j < 16 := by
      have := (List.getElem?_eq_some_iff.1 hv).1
      simpa using this
    have hc := hcell j hj
    rw [Addr.add_lit, Addr.add_lit] at hc
    rw [hc]
    rw [← hv]

theorem bel {w w' : World} (g : w.grownBy w' none) : Below w.heap.size w w' := ⟨g.os, g.tape, g.output, g.size, fun k hk => g.block k hk (by simp)⟩

set_option maxHeartbeats 2000000 in
set_option maxRecDepth 1000000 in
theorem walk (ao bo mo : Option Addr) (n m nm ca cb cm : Nat) (es os : Nat → Ei) (ms : List Int) (w : World) (hC : EntsAt w ao n es) (hO : EntsAt w bo m os) (hM : Pv w (.slice mo nm cm) ms) (hms : ms.length = nm) :
    Calls Yba.prog 3 #[.slice ao n ca, .slice bo m cb, .slice mo nm cm] w fun e w' => e = .returned (.bool true) ∧ Below w.heap.size w w' := by
  by_cases h1 : n ≤ 1024
  · by_cases h2 : m ≤ 1024
    · by_cases h3 : nm ≤ 1024
      · exact (law_u ao bo mo n m nm ca cb cm es os ms w hC hO hM h1 h2 h3 hms).mono fun _ _ h => ⟨h.1, bel h.2⟩
      · have d1 : decide ((1024 : Int) < (n : Int)) = false := decide_eq_false (by omega)
        have d2 : decide ((1024 : Int) < (m : Int)) = false := decide_eq_false (by omega)
        have d3 : decide ((1024 : Int) < (nm : Int)) = true := decide_eq_true (by omega)
        go_enter Yba.func3, Yba.ntmps3
        go_wp2
        go_ret
        exact ⟨rfl, Below.refl _ _⟩
    · have d1 : decide ((1024 : Int) < (n : Int)) = false := decide_eq_false (by omega)
      have d2 : decide ((1024 : Int) < (m : Int)) = true := decide_eq_true (by omega)
      go_enter Yba.func3, Yba.ntmps3
      go_wp2
      go_ret
      exact ⟨rfl, Below.refl _ _⟩
  · have d1 : decide ((1024 : Int) < (n : Int)) = true := decide_eq_true (by omega)
    go_enter Yba.func3, Yba.ntmps3
    go_wp2
    go_ret
    exact ⟨rfl, Below.refl _ _⟩

set_option maxRecDepth 100000 in
theorem lifted (os : Os) (started : os.Started) (H : Type) (enc : TypeId × Value → H) :
    ReturnsInHanded {} Yba.checked os 3 .any (Rows.lawS5144AJoinSpec.pre6 enc Yba.prog Yba.f3 Rows.lawS5144AJoinRow.domain false) (Rows.lawS5144AJoinSpec.post enc Yba.prog Yba.f3 false true false false) := by
  refine returnsInHanded_of_change_sized (C := Yba.checked) own started (by kernel_rfl) Yba.func3
    (ChangeSpec.witness6 (enc := enc) (C := Yba.checked) false ⟨#[], #[.slice none 0 0, .slice none 0 0, .slice none 0 0], []⟩ 8 (by kernel_rfl) (by kernel_rfl) (by kernel_rfl) (by kernel_rfl)) ?_
  intro W base args ds gs before hval0 hW hcnd hsz0 _
  have hval : ∀ (j : Nat) t v, Yba.f3.params[j]? = some t → args[j]? = some v → Value.okWide Yba.prog W .any base t v := hval0
  have hW' := hW
  obtain ⟨p, q, hA0, hV, rfl, hfz, hnd⟩ := hW
  have hA : DataW.TrodAll enc Yba.prog W 0 (fun _ => true) true Yba.f3.params.toList args.toList ds p := hA0
  rw [Yba.params3] at hA hval
  obtain ⟨v0, vs0, d0, ds0, p0, q0, hargs, rfl, rfl, h0, r0⟩ := trodAll_cons hA
  obtain ⟨v1, vs1, d1, ds1, p1, q1, rfl, rfl, rfl, h1, r1⟩ := trodAll_cons r0
  obtain ⟨v2, vs2, d2, ds2, p2, q2, rfl, rfl, rfl, h2, r2⟩ := trodAll_cons r1
  obtain ⟨rfl, rfl, rfl⟩ := trodAll_nil r2
  obtain rfl : args = #[v0, v1, v2] := by cases args; simp_all
  obtain ⟨rfl, rfl⟩ := trodVars_none hV
  have k0 := h0
  have k1 := h1
  have k2 := h2
  obtain ⟨a0, len0, cap0, rfl⟩ := okWide_slice Yba.underlying22 (hval 0 22 v0 rfl rfl)
  obtain ⟨a1, len1, cap1, rfl⟩ := okWide_slice Yba.underlying22 (hval 1 22 v1 rfl rfl)
  obtain ⟨a2, len2, cap2, rfl⟩ := okWide_slice Yba.underlying23 (hval 2 23 v2 rfl rfl)
  have lt0 : ∀ x ∈ p0, x.block < W.heap.size := by obtain ⟨m, hm⟩ := k0; exact DataW.trod_lt m _ _ _ hm
  have lt1 : ∀ x ∈ p1, x.block < W.heap.size := by obtain ⟨m, hm⟩ := k1; exact DataW.trod_lt m _ _ _ hm
  have lt2 : ∀ x ∈ p2, x.block < W.heap.size := by obtain ⟨m, hm⟩ := k2; exact DataW.trod_lt m _ _ _ hm
  obtain ⟨es, hC⟩ : ∃ es, EntsAt W a0 len0 es := by
    obtain ⟨fuel, hf⟩ := h0
    exact ents_of (by simpa [Value.cells] using hf)
  obtain ⟨oe, hO⟩ : ∃ es, EntsAt W a1 len1 es := by
    obtain ⟨fuel, hf⟩ := h1
    exact ents_of (by simpa [Value.cells] using hf)
  obtain ⟨ms, hM⟩ : ∃ l, Pv W (.slice a2 len2 cap2) l := by
    obtain ⟨fuel, hf⟩ := h2
    exact pv_of (by simpa [Value.cells] using hf)
  have hms : ms.length = len2 := by
    obtain ⟨a, c, e⟩ := hM.len
    cases e
    rfl
  clear hA0 hval0 hsz0
  refine (walk a0 a1 a2 len0 len1 len2 cap0 cap1 cap2 es oe ms W hC hO hM hms).mono fun e W' ⟨he, bel⟩ => ?_
  subst he
  exact ⟨_, rfl, _, _, _, [], _, [], hW', trodAll_mk1 (shut_bool Yba.underlying4 _), (trodAll_cons_mk (Below.trod laidOut (by kernel_rfl) (of_decide_eq_true (by kernel_rfl)) k0 bel lt0) (trodAll_cons_mk (Below.trod laidOut (by kernel_rfl) (of_decide_eq_true (by kernel_rfl)) k1 bel lt1) (trodAll_cons_mk (Below.trod laidOut (by kernel_rfl) (of_decide_eq_true (by kernel_rfl)) k2 bel lt2) trodAll_mk0))), rfl, bel.frame _, fun h => by cases h⟩

theorem proved : Rows.LawS5144AJoinSaid :=
  OpenClaim.holds_of_wide 3 Yba.f3 rfl rfl rfl rfl rfl rfl rfl ⟨rfl, rfl, rfl, rfl, rfl⟩ rfl rfl rfl rfl rfl (by kernel_rfl) Yba.func3 (by kernel_rfl)
    (of_decide_eq_true (by kernel_rfl)) (by unfold Func.isWrapper; first | (rw [if_pos (by decide +kernel)]; kernel_rfl) | (rw [if_neg (by decide +kernel)]; exact ⟨rfl, rfl⟩))
    (fun os started H enc _ => lifted os started H enc)
end Join
end Go.Proofs.Ybulkdbmw

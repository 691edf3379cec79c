import Derived.Test.YbulkdbksMats
import Derived.Test.YbulkdbksRtWalk
import Derived.Deep.RegionLaw
namespace Go.Proofs.Ybulkdbks
open Go Go.RowKit

/-- Match j as it can be read: its holders told. -/
def SEnt (w : World) (b j : Nat) : Prop :=
  w.cell? ⟨b, 3 * j, none⟩ = some (.string (nameB j)) ∧ (∃ x : Int, w.cell? ⟨b, 3 * j + 1, none⟩ = some (.int .i64 x)) ∧
  ∃ ao cap, w.cell? ⟨b, 3 * j + 2, none⟩ = some (.slice ao (j % 4) cap) ∧ (ao = none → cap = 0) ∧ (0 < j % 4 → ∃ hb, ao = some ⟨hb, 0, none⟩ ∧ ∀ i, i < j % 4 → w.cell? ⟨hb, i, none⟩ = some (.string (holdB i)))

def SrcOk (w : World) (v : Value) (m : Nat) : Prop := ∃ ao cap, v = .slice ao m cap ∧ (0 < m → ∃ b, ao = some ⟨b, 0, none⟩ ∧ ∀ j, j < m → SEnt w b j)

theorem MsOk.src {w : World} {κ : Nat → Nat} {v : Value} {m : Nat} (h : MsOk w κ v m) : SrcOk w v m := by
  rcases h with ⟨rfl, rfl⟩ | ⟨b, cap, rfl, _, _, r⟩
  · exact ⟨none, 0, rfl, fun h => by omega⟩
  · refine ⟨_, _, rfl, fun _ => ⟨b, rfl, fun j hj => ?_⟩⟩
    obtain ⟨c0, c1, h, c2, ao, cap', rfl, hn, r'⟩ := r j hj
    exact ⟨c0, ⟨_, c1⟩, ao, cap', c2, hn, fun h0 => by obtain ⟨hb, e, _, c⟩ := r' h0; exact ⟨hb, e, c⟩⟩

theorem NRow.src {w0 w : World} {b m : Nat} (h : NRow w0 w b m m) : SrcOk w (.slice (some ⟨b, 0, none⟩) m m) m := by
  refine ⟨_, _, rfl, fun _ => ⟨b, rfl, fun j hj => ?_⟩⟩
  obtain ⟨a1, a2, hb, a3, _, _, a6⟩ := h.ent j hj
  exact ⟨a1, ⟨_, a2⟩, _, _, a3, (fun h => by cases h), fun _ => ⟨hb, rfl, a6⟩⟩

theorem SEnt.grown {w w' : World} {b j : Nat} (h : SEnt w b j) (g : w.grownBy w' none) : SEnt w' b j := by
  obtain ⟨c0, ⟨x, c1⟩, ao, cap, c2, hn, r⟩ := h
  exact ⟨cell_grown c0 g, ⟨x, cell_grown c1 g⟩, ao, cap, cell_grown c2 g, hn, fun h0 => by obtain ⟨hb, e, c⟩ := r h0; exact ⟨hb, e, fun i hi => cell_grown (c i hi) g⟩⟩

/-- Match j of a copy in block b: no hops; the holders in a block of their own, or none. -/
def CEnt (w : World) (b j : Nat) : Prop :=
  w.cell? ⟨b, 3 * j, none⟩ = some (.string (nameB j)) ∧ w.cell? ⟨b, 3 * j + 1, none⟩ = some (.int .i64 0) ∧
  ∃ ao cap, w.cell? ⟨b, 3 * j + 2, none⟩ = some (.slice ao (j % 4) cap) ∧ (ao = none → cap = 0) ∧ (0 < j % 4 → ∃ hb, ao = some ⟨hb, 0, none⟩ ∧ b < hb ∧ ∀ i, i < j % 4 → w.cell? ⟨hb, i, none⟩ = some (.string (holdB i)))

structure CRow (w0 w : World) (b m q : Nat) : Prop where
  wr : Wr w b
  cel : ∀ i, i < 3 * m → ∃ v, w.cell? ⟨b, i, none⟩ = some v
  ent : ∀ j, j < q → CEnt w b j
  gr : w0.grownBy w none

theorem CRow.grown {w0 w w' : World} {b m q : Nat} (h : CRow w0 w b m q) (g : w.grownBy w' none) : CRow w0 w' b m q := by
  refine ⟨wr_grown h.wr g, fun i hi => ?_, fun j hj => ?_, grown_trans h.gr g⟩
  · obtain ⟨v, hv⟩ := h.cel i hi
    exact ⟨v, cell_grown hv g⟩
  · obtain ⟨a1, a2, ao, cap, a3, hn, a4⟩ := h.ent j hj
    exact ⟨cell_grown a1 g, cell_grown a2 g, ao, cap, cell_grown a3 g, hn, fun h0 => by obtain ⟨hb, e, l, c⟩ := a4 h0; exact ⟨hb, e, l, fun i hi => cell_grown (c i hi) g⟩⟩

theorem CRow.step {w0 w : World} {b m q cap : Nat} {ao : Option Addr} (h : CRow w0 w b m q) (hq : q < m) (hw : w0.heap.size ≤ b) (hn : ao = none → cap = 0) (h3 : 0 < q % 4 → ∃ hb, ao = some ⟨hb, 0, none⟩ ∧ b < hb ∧ ∀ i, i < q % 4 → w.cell? ⟨hb, i, none⟩ = some (.string (holdB i))) :
    CRow w0 (set3 w b (3 * q) (.string (nameB q)) (.int .i64 0) (.slice ao (q % 4) cap)) b m (q + 1) := by
  obtain ⟨u0, k0⟩ := h.cel (3 * q) (by omega)
  obtain ⟨u1, k1⟩ := h.cel (3 * q + 1) (by omega)
  obtain ⟨u2, k2⟩ := h.cel (3 * q + 2) (by omega)
  obtain ⟨s0, s1, s2⟩ := set3_at (x := .string (nameB q)) (y := .int .i64 0) (z := .slice ao (q % 4) cap) k0 k1 k2
  refine ⟨set3_wr h.wr, fun i hi => ?_, fun j hj => ?_, set3_grown h.gr hw⟩
  · by_cases hin : 3 * q ≤ i ∧ i < 3 * q + 3
    · obtain rfl | rfl | rfl : i = 3 * q ∨ i = 3 * q + 1 ∨ i = 3 * q + 2 := by omega
      · exact ⟨_, s0⟩
      · exact ⟨_, s1⟩
      · exact ⟨_, s2⟩
    · obtain ⟨v, hv⟩ := h.cel i hi
      exact ⟨v, (set3_other (by omega)).trans hv⟩
  · by_cases e : j = q
    · subst e
      exact ⟨s0, s1, ao, cap, s2, hn, fun h0 => by obtain ⟨hb, e, l, c⟩ := h3 h0; exact ⟨hb, e, l, fun i hi => (set3_other (by omega)).trans (c i hi)⟩⟩
    · obtain ⟨a1, a2, ao', cap', a3, hn', a4⟩ := h.ent j (by omega)
      exact ⟨(set3_other (by omega)).trans a1, (set3_other (by omega)).trans a2, ao', cap', (set3_other (by omega)).trans a3, hn', fun h0 => by obtain ⟨hb, e, l, c⟩ := a4 h0; exact ⟨hb, e, l, fun i hi => (set3_other (by omega)).trans (c i hi)⟩⟩

/-- A copy, as the node keeps it. -/
theorem CRow.ok {w0 w : World} {m : Nat} {κ : Nat → Nat} (h : CRow w0 w w0.heap.size m m) (hk : ∀ b, w0.heap.size ≤ b → κ b = 1) : MOk w κ (.slice (some ⟨w0.heap.size, 0, none⟩) m m) m (fun _ => 0) := by
  refine ⟨_, _, rfl, hk _ (Nat.le_refl _), h.wr.lt, fun j hj => ?_⟩
  obtain ⟨a1, a2, ao, cap, a3, hn, a4⟩ := h.ent j hj
  exact ⟨a1, a2, _, a3, ao, cap, rfl, hn, fun h0 => by obtain ⟨hb, e, l, c⟩ := a4 h0; exact ⟨hb, e, hk _ (by omega), c⟩⟩

theorem step_append_any {P : Program} {ops : Array Oper} {o : Oper} {a : Act} {w : World} {K : Act → World → Prop} {Q : Exit → Act → World → Prop} {E : Prop} (hgd : o.guard = none) (s x : Operand) (t : TypeId)
    (ho : o.op = .call { callee := .builtin .append, args := #[s, x], argTypes := #[t, t] })
    (base : Nat) (e : TypeId) (i : TypeInfo) (z : Value) (size bytes : Nat) (ht : P.underlying t = some (.slice e)) (hi : P.info? e = some i) (hz : i.zero = some z)
    (hsize : i.size = size) (hby : i.bytes = bytes) (hzs : z.cells.size = size) (hsz : 0 < size)
    (v : Value) (n : Nat) (xs : List Value) (hs : a.eval s = v) (hown : w.ownsRow base e size v n xs)
    (ao : Option Addr) (m c : Nat) (news : List Value) (hx : a.eval x = .slice ao m c) (hnone : ao = none → m = 0 ∧ c = 0) (hl : news.length = m * size) (hnews : ∀ ad, ao = some ad → ∀ j u, news[j]? = some u → w.cell? (ad.add j) = some u) (h1 : ∀ u ∈ news, u.oneCell' = true)
    (h63 : n + m ≤ maxLen) (hbytes : (n + m) * bytes ≤ 140737488355328) (hbase : base ≤ w.heap.size)
    (h : ∀ v' w', w'.ownsRow base e size v' (n + m) (xs ++ news) → w.grownBy w' v.ownBlock → K (a.put o.dst v') w') : if Region.wanted o (yielded ops a.tmps) = true then Oper.wp P o a w K Q else E := by
  have hw : Region.wanted o (yielded ops a.tmps) = true := by simp [Region.wanted, hgd]
  rw [if_pos hw]
  cases ao with
  | some ad => exact wp_append_own w s x t ho base e i z size bytes ht hi hz hsize hby hzs hsz v n xs hs hown ad m c news hx hl (hnews ad rfl) h1 h63 hbytes hbase (fun v' w' a b _ => h v' w' a b)
  | none =>
    obtain ⟨rfl, rfl⟩ := hnone rfl
    have hnil : news = [] := List.eq_nil_of_length_eq_zero (by simpa using hl)
    subst hnil
    have hrun := run_append_owned_none (P := P) (w := w) base t o.type e i size ht hi v n xs hown
    unfold Oper.wp
    simp [execOp, ho, resolve, invoke, builtin, hs, hx, hrun, Result.andThen]
    exact h v w (by simpa using hown) ⟨rfl, rfl, rfl, Nat.le_refl _, fun _ _ _ => rfl⟩

theorem own_shape {w : World} {B k : Nat} {v : Value} (h : w.ownsRow (B + 1) 9 1 v (0 + k) ([] ++ (List.range k).map fun i => Value.string (holdB i))) :
    ∃ ao cap, v = .slice ao k cap ∧ (ao = none → cap = 0) ∧ (0 < k → ∃ hb, ao = some ⟨hb, 0, none⟩ ∧ B < hb ∧ ∀ i, i < k → w.cell? ⟨hb, i, none⟩ = some (.string (holdB i))) := by
  rw [Nat.zero_add, List.nil_append] at h
  have h' := h
  rcases h.2 with ⟨rfl, rfl⟩ | ⟨g, cap, cur, rfl, hg, _⟩
  · exact ⟨none, 0, rfl, fun _ => rfl, fun h => by omega⟩
  · refine ⟨_, cap, rfl, (fun h => by cases h), fun _ => ⟨g, rfl, by omega, fun i hi => ?_⟩⟩
    rw [h'.cellAt i (by omega)]
    simp [hi]

set_option maxHeartbeats 1600000 in
set_option maxRecDepth 100000 in
theorem copy_any (v : Value) (m : Nat) (hm : m ≤ 6) (w : World) (hs : SrcOk w v m) : Calls Yba.prog 34 #[v] w fun e w' => e = .returned (.slice (some ⟨w.heap.size, 0, none⟩) m m) ∧ CRow w w' w.heap.size m m := by
  obtain ⟨i0, hi, hz0, hz1, hz2⟩ := info_parts info97
  obtain ⟨i9, hi9, hy0, hy1, hy2⟩ := info_parts info9
  obtain ⟨sao, scap, rfl, hsrc⟩ := hs
  have HSrc : Hid _ := hsrc
  clear hsrc
  go_enter Yba.func34, Yba.ntmps34
  go_wp2_with (at_make; refine wpList_make_full _ rfl _ _ 86 rfl w.heap.size 97 i0 _ 3 Yba.underlying86 hi hz0 hz1 _ _ _ _ m rfl rfl (by omega) (by omega) ?b2 ?b3 (Nat.le_refl _) ?_)
  case b2 => rw [hz2]; omega
  case b3 => unfold maxLen; omega
  intro w0 hown0 hgrow0
  have HN : Hid (CRow w w0 w.heap.size m 0) := ⟨row_wr hown0, fun i hi => ⟨_, (hown0.cellAt i (by omega)).trans (List.getElem?_eq_getElem (by rw [hown0.1]; omega))⟩, fun j hj => by omega, hgrow0⟩
  clear hown0 hgrow0
  go_wp2
  go_loopw [4, 5, 11] (fun _ _ si wr => ∃ q : Nat, q ≤ m ∧ si = .int .i64 q ∧ CRow w wr w.heap.size m q) (fun _ _ si _ => m - (intOf si).toNat)
  case atStart => exact ⟨0, Nat.zero_le _, rfl, HN.out⟩
  case round =>
    obtain ⟨q, hq, rfl, hN⟩ := hrel
    by_cases hlt : q < m
    · obtain ⟨sb, rfl, hent⟩ := HSrc.out (by omega)
      obtain ⟨c0, ⟨x, c1⟩, hao, hcap, c2, hhn, hh⟩ := (hent q hlt).grown hN.gr
      clear hent
      rw [Nat.mul_comm 3 q] at c0 c1 c2
      have hltI : (q : Int) < (m : Int) := by omega
      go_wp2_with fail
      have lw : w.heap.size ≤ wr.heap.size := hN.gr.size
      have hN0 := hN
      obtain ⟨wv, hwv⟩ : ∃ wv, wv = (wr.alloc (.cells #[.string (nameB q), .int .i64 x, .slice hao (q % 4) hcap] 97)).drew := ⟨_, rfl⟩
      have gv : wr.grownBy wv none := by
        have := World.grownBy_alloc wr (.cells #[.string (nameB q), .int .i64 x, .slice hao (q % 4) hcap] 97) none
        rw [hwv]; exact ⟨this.os, this.tape, this.output, this.size, this.block⟩
      have hNv := hN.grown gv
      have bb : w.heap.size < wv.heap.size := hNv.wr.lt
      have bbw : w.heap.size < wr.heap.size := hN.wr.lt
      have hhv : 0 < q % 4 → ∃ hb, hao = some ⟨hb, 0, none⟩ ∧ ∀ i, i < q % 4 → wv.cell? ⟨hb, i, none⟩ = some (.string (holdB i)) := fun h0 => by
        obtain ⟨hb, e, c⟩ := hh h0; exact ⟨hb, e, fun i hi => cell_grown (c i hi) gv⟩
      have HNv : Hid _ := hNv
      have HHv : Hid _ := hhv
      have HHn : Hid _ := hhn
      rw [hwv] at HNv HHv
      have P1 : Hid (hao = none → q % 4 = 0 ∧ hcap = 0) := fun e => ⟨by
          by_cases h0 : 0 < q % 4
          · obtain ⟨hb, e', _⟩ := hh h0; rw [e] at e'; cases e'
          · omega, hhn e⟩
      have P2 : Hid (((List.range (q % 4)).map fun i => Value.string (holdB i)).length = q % 4 * 1) := by show _ = _; simp
      have P3 : Hid (∀ ad, hao = some ad → ∀ j u, ((List.range (q % 4)).map fun i => Value.string (holdB i))[j]? = some u → (wr.alloc (.cells #[.string (nameB q), .int .i64 x, .slice hao (q % 4) hcap] 97)).drew.cell? (ad.add j) = some u) := by
        intro ad e j u hj
        have hlt2 : j < q % 4 := by
          have := (List.getElem?_eq_some_iff.1 hj).1
          simpa using this
        obtain ⟨hb, e', c⟩ := HHv.out (by omega)
        rw [e] at e'
        injection e' with e'
        subst e'
        have hu : u = .string (holdB j) := by simp [hlt2] at hj; exact hj.symm
        rw [hu]
        have := c j hlt2
        rw [Addr.add_lit, Nat.zero_add]
        exact this
      have P4 : Hid (∀ u ∈ ((List.range (q % 4)).map fun i => Value.string (holdB i)), u.oneCell' = true) := by
        intro u hu
        obtain ⟨i, _, rfl⟩ := List.mem_map.1 hu
        rfl
      have P5 : Hid (0 + q % 4 ≤ maxLen) := by show _ ≤ _; unfold maxLen; omega
      have P6 : Hid ((0 + q % 4) * 16 ≤ 140737488355328) := by show _ ≤ _; omega
      have P7 : Hid (w.heap.size + 1 ≤ (wr.alloc (.cells #[.string (nameB q), .int .i64 x, .slice hao (q % 4) hcap] 97)).drew.heap.size) := by show _ ≤ _; simp; omega
      have P8 : Hid ((wr.alloc (.cells #[.string (nameB q), .int .i64 x, .slice hao (q % 4) hcap] 97)).drew.cell? ⟨wr.heap.size, 0, none⟩ = some (.string (nameB q))) := cell_new (w := wr) rfl
      clear hN hN0 hNv hhv hh hhn gv hwv bb c0 c1 c2 HSrc HN HHn HHv
      go_region_law ((refine step_append_any rfl (.const (.slice none 0 0)) (.tmp 21) 32 rfl (w.heap.size + 1) 9 i9 (.string ByteArray.empty) 1 16 Yba.underlying32 hi9 hy0 hy1 hy2 rfl (by decide) (.slice none 0 0) 0 [] (by simp [Act.eval]) ⟨rfl, Or.inl ⟨rfl, rfl⟩⟩ hao (q % 4) hcap ((List.range (q % 4)).map fun i => .string (holdB i)) (by simp [Act.eval]) P1.out P2.out P3.out P4.out P5.out P6.out P7.out ?_; intro v2 w2 hown2 hg2; obtain ⟨ao2, cap2, hv2, hn2, hx2⟩ := own_shape hown2; subst hv2; have hN2 := HNv.out.grown hg2; obtain ⟨x0, k0⟩ := hN2.cel (q * 3) (by omega); obtain ⟨x1, k1⟩ := hN2.cel (q * 3 + 1) (by omega); obtain ⟨x2, k2⟩ := hN2.cel (q * 3 + 2) (by omega); have fz := hN2.wr.fz; have d0 : w2.cell? ⟨wr.heap.size, 0, none⟩ = some (.string (nameB q)) := cell_grown (P8.out) hg2; have HS : Hid _ := hN2.step hlt (Nat.le_refl _) hn2 hx2; clear hown2 hg2 hN2 hx2 hn2))
      all_goals
        go_wp2_with fail
        go_roundw
        case rel => exact ⟨q + 1, by omega, by go_num, by have := HS.out; rw [Nat.mul_comm 3 q] at this; exact ⟨this.wr, this.cel, this.ent, ⟨this.gr.os, this.gr.tape, this.gr.output, this.gr.size, this.gr.block⟩⟩⟩
        case measure => simp [intOf]; omega
    · obtain rfl : q = m := by omega
      have HN2 : Hid _ := hN
      clear hN
      go_wp2
      go_ret
      exact ⟨rfl, HN2.out⟩
end Go.Proofs.Ybulkdbks

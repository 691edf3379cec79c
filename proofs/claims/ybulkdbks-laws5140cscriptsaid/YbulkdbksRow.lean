import Derived.Test.YbulkdbksKeepW
namespace Go.Proofs.Ybulkdbks
open Go Go.RowKit

theorem info91 : (Yba.prog.info? 91).map (fun i => (i.zero, i.size, i.bytes)) = some (some (.agg #[.string ByteArray.empty, .int .i64 0, .bool false, .int .i64 0]), 4, 40) := by kernel_rfl

theorem info91s (c : Array Value) (h : c.size = 4) : (Yba.prog.info? 91).map (·.size) = some c.size := by rw [h]; kernel_rfl

/-- The cells of one row of the law's own list. -/
def rc (e : Ent) : List Value := [.string e.key, .int .i64 e.m, .bool e.come, .int .i64 e.since]
theorem rc_one (e : Ent) : ∀ u ∈ rc e, u.oneCell' = true := by
  intro u hu
  simp only [rc] at hu
  simp at hu
  rcases hu with rfl | rfl | rfl | rfl <;> rfl
def rows (L : List Ent) : List Value := L.flatMap rc
theorem rows_len (L : List Ent) : (rows L).length = L.length * 4 := by
  induction L with
  | nil => rfl
  | cons a t ih => simp only [rows, List.flatMap_cons, List.length_append, rc] at ih ⊢; simp only [List.length_cons, List.length_nil]; omega
theorem rows_append (a b : List Ent) : rows (a ++ b) = rows a ++ rows b := by simp [rows]
theorem rows_cons (a : Ent) (b : List Ent) : rows (a :: b) = rc a ++ rows b := by simp [rows]
theorem rows_one (L : List Ent) : ∀ u ∈ rows L, u.oneCell' = true := by
  intro u hu
  simp only [rows, List.mem_flatMap, rc] at hu
  obtain ⟨e, _, he⟩ := hu
  simp at he
  rcases he with rfl | rfl | rfl | rfl <;> rfl
theorem rows_at (l1 l2 : List Ent) (e : Ent) (i : Nat) (hi : i < 4) : (rows (l1 ++ e :: l2))[l1.length * 4 + i]? = (rc e)[i]? := by
  rw [rows_append, rows_cons, List.getElem?_append_right (by rw [rows_len]; omega), rows_len, Nat.add_sub_cancel_left, List.getElem?_append_left (by simp [rc]; omega)]

/-- The law's own list, as it lies. -/
def MR (w : World) (v : Value) (L : List Ent) : Prop := (v = .slice none 0 0 ∧ L = []) ∨ ∃ g cap, v = .slice (some ⟨g, 0, none⟩) L.length cap ∧ w.ownsRow 0 91 4 (.slice (some ⟨g, 0, none⟩) L.length cap) L.length (rows L)
theorem MR.nil (w : World) : MR w (.slice none 0 0) [] := Or.inl ⟨rfl, rfl⟩
def MR.blk (v : Value) : Nat → Prop := fun g => v.ownBlock = some g

theorem own_same {w w' : World} {b g n cap sz e : Nat} {xs : List Value} (h : w.ownsRow b e sz (.slice (some ⟨g, 0, none⟩) n cap) n xs) (hg : w'.heap[g]? = w.heap[g]?) : w'.ownsRow b e sz (.slice (some ⟨g, 0, none⟩) n cap) n xs := by
  refine ⟨h.1, ?_⟩
  rcases h.2 with h | ⟨g', cap', cur, hv, h1, h2, h3⟩
  · exact Or.inl h
  · have hg' : g = g' := by injection hv with hv; injection hv with hv; injection hv
    subst hg'
    exact Or.inr ⟨g, cap', cur, hv, h1, hg.trans h2, h3⟩

theorem own_base {w : World} {b g n cap sz e : Nat} {xs : List Value} (h : w.ownsRow b e sz (.slice (some ⟨g, 0, none⟩) n cap) n xs) : w.ownsRow 0 e sz (.slice (some ⟨g, 0, none⟩) n cap) n xs := by
  refine ⟨h.1, ?_⟩
  rcases h.2 with h | ⟨g', cap', cur, hv, h1, h2, h3⟩
  · exact Or.inl h
  · exact Or.inr ⟨g', cap', cur, hv, Nat.zero_le _, h2, h3⟩

theorem MR.same {w w' : World} {v : Value} {L : List Ent} (h : MR w v L) (hb : ∀ g, v.ownBlock = some g → w'.heap[g]? = w.heap[g]?) : MR w' v L := by
  rcases h with h | ⟨g, cap, rfl, h⟩
  · exact Or.inl h
  · exact Or.inr ⟨g, cap, rfl, own_same h (hb g rfl)⟩
theorem MR.lt {w : World} {v : Value} {L : List Ent} (h : MR w v L) : ∀ g, v.ownBlock = some g → g < w.heap.size := by
  rcases h with ⟨rfl, rfl⟩ | ⟨g, cap, rfl, h⟩
  · intro g hg; cases hg
  · intro g' hg'; exact (h.lt g' hg').2

/-- The cells of row i. -/
theorem MR.at' {w : World} {v : Value} {l1 l2 : List Ent} {e : Ent} (h : MR w v (l1 ++ e :: l2)) : ∃ g cap, v = .slice (some ⟨g, 0, none⟩) (l1.length + 1 + l2.length) cap ∧ l1.length + 1 + l2.length ≤ cap ∧
    w.cell? ⟨g, l1.length * 4, none⟩ = some (.string e.key) ∧ w.cell? ⟨g, l1.length * 4 + 1, none⟩ = some (.int .i64 e.m) ∧ w.cell? ⟨g, l1.length * 4 + 2, none⟩ = some (.bool e.come) ∧ w.cell? ⟨g, l1.length * 4 + 3, none⟩ = some (.int .i64 e.since) := by
  have hl : (l1 ++ e :: l2).length = l1.length + 1 + l2.length := by simp; omega
  rcases h with ⟨_, h⟩ | ⟨g, cap, rfl, h⟩
  · simp at h
  · have hc : (l1 ++ e :: l2).length ≤ cap := by
      rcases h.2 with ⟨h, _⟩ | ⟨g', cap', cur, hv, _, _, h3, _⟩
      · cases h
      · injection hv with _ _ hv; subst hv; exact h3
    have ca : ∀ i, i < 4 → w.cell? ⟨g, l1.length * 4 + i, none⟩ = (rc e)[i]? := fun i hi => by
      rw [h.cellAt _ (by rw [hl]; omega), rows_at _ _ _ _ hi]
    refine ⟨g, cap, by rw [hl], by rw [← hl]; exact hc, ca 0 (by decide), ca 1 (by decide), ca 2 (by decide), ca 3 (by decide)⟩

theorem grown_fresh {a b c : World} {k : Nat} (h : a.grownBy b none) (k' : b.grownBy c (some k)) (hk : a.heap.size ≤ k) : a.grownBy c none :=
  ⟨k'.os.trans h.os, k'.tape.trans h.tape, k'.output.trans h.output, Nat.le_trans h.size k'.size, fun i hi _ => (k'.block i (Nat.lt_of_lt_of_le hi h.size) (fun e => by injection e with e; omega)).trans (h.block i hi (by simp))⟩

theorem size16 (m : Nat) (hm : m ≤ 6) (w : World) : Calls Yba.prog 16 #[.int .i64 m] w fun r w' => r = .returned (.int .i64 (msz m : Nat)) ∧ w' = w := by
  have hms : ((msz m : Nat) : Int) = if (m : Int) < 1 then 1 else (m : Int) := by unfold msz; split <;> split <;> omega
  rw [hms]
  clear hms
  by_cases h : (m : Int) < 1
  · rw [if_pos h]
    have hd : decide ((m : Int) < 1) = true := by simpa using h
    go_enter Yba.func16, Yba.ntmps16
    go_wp2
    go_ret
    exact ⟨rfl, rfl⟩
  · rw [if_neg h]
    have hd : decide ((m : Int) < 1) = false := by simpa using h
    go_enter Yba.func16, Yba.ntmps16
    go_wp2
    go_ret
    exact ⟨rfl, rfl⟩

set_option maxHeartbeats 1600000 in
set_option maxRecDepth 100000 in
theorem prepend_any (v : Value) (L : List Ent) (e : Ent) (w : World) (h : MR w v L) (hL : L.length ≤ 900) : Calls Yba.prog 18 #[v, .agg #[.string e.key, .int .i64 e.m, .bool e.come, .int .i64 e.since]] w fun r w' => ∃ g cap, r = .returned (.slice (some ⟨g, 0, none⟩) (L.length + 1) cap) ∧ w.heap.size ≤ g ∧ MR w' (.slice (some ⟨g, 0, none⟩) (L.length + 1) cap) (e :: L) ∧ w.grownBy w' none := by
  obtain ⟨i0, hi, hz0, hz1, hz2⟩ := info_parts info91
  have Hnews : Hid (∀ (o : Nat) (w2 : World), w2.heap[o]? = some (.cells #[.string e.key, .int .i64 e.m, .bool e.come, .int .i64 e.since] 91 (0, 0)) → ∀ j u, (rc e)[j]? = some u → w2.cell? ((⟨o, 0, none⟩ : Addr).add j) = some u) := fun o w2 hw j u hj => by
    rw [Addr.add_lit, Nat.zero_add]
    unfold World.cell?
    rw [hw]
    simp only [rc] at hj
    simpa using hj
  rcases h with ⟨rfl, rfl⟩ | ⟨g, cap, rfl, h⟩
  · go_enter Yba.func18, Yba.ntmps18
    go_wp2_with (at_make; refine wpList_make_own _ rfl _ _ 79 rfl w.heap.size 91 i0 _ 4 Yba.underlying79 hi hz0 hz1 _ _ _ 1 rfl rfl (by omega) (by rw [hz2]; decide) (by decide) (by simp) ?_)
    intro w1 hown1 hg1
    have HO1 : Hid (w1.ownsRow w.heap.size 91 4 (.slice (some ⟨w.heap.size + 1, 0, none⟩) 0 1) 0 []) := hown1
    have HG1 : Hid (w.grownBy w1 none) := grown_trans (World.grownBy_alloc w _ none) hg1
    have HB1 : Hid (w1.heap[w.heap.size]? = some (.cells #[.string e.key, .int .i64 e.m, .bool e.come, .int .i64 e.since] 91 (0, 0))) := (hg1.block _ (by simp) (by simp)).trans heap_new
    clear hown1 hg1
    go_wp2_with (first
      | (refine wpList_load_row rfl 91 (.tmp 3) rfl w.heap.size rfl 91 _ (0, 0) _ HB1.out Yba.underlying91 rfl (info91s _ rfl) ?_)
      | (at_builtin; refine wpList_append_fits _ rfl (.tmp 10) (.tmp 12) 79 rfl w.heap.size 91 i0 4 Yba.underlying79 hi hz1 (w.heap.size + 1) 0 1 [] rfl (HO1.out.alloc _) ⟨w1.heap.size, 0, none⟩ 1 1 (rc e) rfl rfl (Hnews.out w1.heap.size _ heap_new) (rc_one e) (by decide) ?_; intro w2 hown2 hg2; have HO2 : Hid (w2.ownsRow w.heap.size 91 4 (.slice (some ⟨w.heap.size + 1, 0, none⟩) 1 1) 1 (rc e)) := hown2; have HG2 : Hid _ := hg2; clear hown2 hg2)
      | (at_builtin; refine wpList_append_own_none rfl (.tmp 14) (.tmp 15) 79 rfl w.heap.size 91 i0 4 Yba.underlying79 hi _ 1 (rc e) rfl HO2.out rfl ?_))
    go_ret
    refine ⟨_, _, rfl, Nat.le_succ _, Or.inr ⟨_, _, rfl, ?_⟩, grown_fresh (grown_trans HG1.out (World.grownBy_alloc w1 _ none)) HG2.out (Nat.le_succ _)⟩
    have := HO2.out
    exact own_base this
  · have hl := h.1
    have HN : Hid (∀ w2 : World, w.grownBy w2 none → ∀ j u, (rows L)[j]? = some u → w2.cell? ((⟨g, 0, none⟩ : Addr).add j) = some u) := fun w2 g2 j u hj => by
      have hj' : j < L.length * 4 := by rw [← hl]; exact (List.getElem?_eq_some_iff.1 hj).1
      rw [Addr.add_lit, Nat.zero_add]
      exact cell_grown ((h.cellAt j hj').trans hj) g2
    have hw1 : IntKind.i64.wrap ((L.length : Int) + 1) = (L.length : Int) + 1 := wrap64 (by omega) (by omega)
    have hrl : (rows L).length = L.length * 4 := hl
    clear h hl
    go_enter Yba.func18, Yba.ntmps18
    go_wp2_with (at_make; refine wpList_make_own _ rfl _ _ 79 rfl w.heap.size 91 i0 _ 4 Yba.underlying79 hi hz0 hz1 _ _ _ (L.length + 1) rfl rfl (by omega) (by rw [hz2]; omega) (by unfold maxLen; omega) (by simp) ?_)
    intro w1 hown1 hg1
    have HO1 : Hid (w1.ownsRow w.heap.size 91 4 (.slice (some ⟨w.heap.size + 1, 0, none⟩) 0 (L.length + 1)) 0 []) := hown1
    have HG1 : Hid (w.grownBy w1 none) := grown_trans (World.grownBy_alloc w _ none) hg1
    have HB1 : Hid (w1.heap[w.heap.size]? = some (.cells #[.string e.key, .int .i64 e.m, .bool e.come, .int .i64 e.since] 91 (0, 0))) := (hg1.block _ (by simp) (by simp)).trans heap_new
    clear hown1 hg1
    go_wp2_with (first
      | (refine wpList_load_row rfl 91 (.tmp 3) rfl w.heap.size rfl 91 _ (0, 0) _ HB1.out Yba.underlying91 rfl (info91s _ rfl) ?_)
      | (at_builtin; refine wpList_append_fits _ rfl (.tmp 10) (.tmp 12) 79 rfl w.heap.size 91 i0 4 Yba.underlying79 hi hz1 (w.heap.size + 1) 0 (L.length + 1) [] rfl (HO1.out.alloc _) ⟨w1.heap.size, 0, none⟩ 1 1 (rc e) rfl rfl (Hnews.out w1.heap.size _ heap_new) (rc_one e) (by omega) ?_; intro w2 hown2 hg2; have HO2 : Hid (w2.ownsRow w.heap.size 91 4 (.slice (some ⟨w.heap.size + 1, 0, none⟩) 1 (L.length + 1)) 1 (rc e)) := hown2; have HG2 : Hid (w.grownBy w2 none) := grown_fresh (grown_trans HG1.out (World.grownBy_alloc w1 _ none)) hg2 (Nat.le_succ _); clear hown2 hg2)
      | (at_builtin; refine wpList_append_fits _ rfl (.tmp 14) (.tmp 15) 79 rfl w.heap.size 91 i0 4 Yba.underlying79 hi hz1 (w.heap.size + 1) 1 (L.length + 1) (rc e) rfl HO2.out ⟨g, 0, none⟩ L.length cap (rows L) rfl hrl (HN.out _ HG2.out) (rows_one L) (by omega) ?_; intro w3 hown3 hg3; have HO3 : Hid (w3.ownsRow w.heap.size 91 4 (.slice (some ⟨w.heap.size + 1, 0, none⟩) (1 + L.length) (L.length + 1)) (1 + L.length) (rc e ++ rows L)) := hown3; have HG3 : Hid (w.grownBy w3 none) := grown_fresh HG2.out hg3 (Nat.le_succ _); clear hown3 hg3))
    go_ret
    refine ⟨w.heap.size + 1, L.length + 1, by show Ending.returned (.slice (some ⟨w.heap.size + 1, 0, none⟩) (1 + L.length) (L.length + 1)) = _; rw [Nat.add_comm 1], Nat.le_succ _, Or.inr ⟨_, _, rfl, ?_⟩, HG3.out⟩
    have := HO3.out
    rw [← rows_cons, Nat.add_comm 1] at this
    exact own_base this

set_option maxHeartbeats 1600000 in
set_option maxRecDepth 100000 in
theorem remove_any17 (v : Value) (l1 l2 : List Ent) (e : Ent) (w : World) (h : MR w v (l1 ++ e :: l2)) (hL : (l1 ++ e :: l2).length ≤ 900) : Calls Yba.prog 17 #[v, .int .i64 l1.length] w fun r w' => ∃ g cap, r = .returned (.slice (some ⟨g, 0, none⟩) (l1 ++ l2).length cap) ∧ w.heap.size ≤ g ∧ MR w' (.slice (some ⟨g, 0, none⟩) (l1 ++ l2).length cap) (l1 ++ l2) ∧ w.grownBy w' none := by
  obtain ⟨i0, hi, hz0, hz1, hz2⟩ := info_parts info91
  have hlen : (l1 ++ e :: l2).length = l1.length + 1 + l2.length := by simp; omega
  rcases h with ⟨_, h⟩ | ⟨g, cap, rfl, h⟩
  · simp at h
  have hcap : (l1 ++ e :: l2).length ≤ cap := by
    rcases h.2 with ⟨h, _⟩ | ⟨g', cap', cur, hv, _, _, h3, _⟩
    · cases h
    · injection hv with _ _ hv; subst hv; exact h3
  have hr1 : (rows l1).length = l1.length * 4 := rows_len l1
  have hr2 : (rows l2).length = l2.length * 4 := rows_len l2
  have HN1 : Hid (∀ w2 : World, w.grownBy w2 none → ∀ j u, (rows l1)[j]? = some u → w2.cell? ((⟨g, 0, none⟩ : Addr).add j) = some u) := fun w2 g2 j u hj => by
    have hj' : j < l1.length * 4 := by rw [← hr1]; exact (List.getElem?_eq_some_iff.1 hj).1
    rw [Addr.add_lit, Nat.zero_add]
    refine cell_grown ((h.cellAt j (by rw [hlen]; omega)).trans ?_) g2
    rw [rows_append, List.getElem?_append_left (by rw [hr1]; exact hj')]; exact hj
  have HN2 : Hid (∀ w2 : World, w.grownBy w2 none → ∀ j u, (rows l2)[j]? = some u → w2.cell? ((⟨g, (l1.length + 1) * 4, none⟩ : Addr).add j) = some u) := fun w2 g2 j u hj => by
    have hj' : j < l2.length * 4 := by rw [← hr2]; exact (List.getElem?_eq_some_iff.1 hj).1
    rw [Addr.add_lit]
    refine cell_grown ((h.cellAt _ (by rw [hlen]; omega)).trans ?_) g2
    rw [rows_append, rows_cons, List.getElem?_append_right (by rw [hr1]; omega), List.getElem?_append_right (by rw [hr1]; simp [rc]; omega), hr1]
    rw [← hj]
    congr 1
    simp [rc]
    omega
  have hw1 : IntKind.i64.wrap ((l1.length : Int) + 1) = (l1.length : Int) + 1 := wrap64 (by omega) (by omega)
  rw [hlen] at hL hcap
  rw [hlen]
  have hll : (l1 ++ l2).length = l1.length + l2.length := by simp
  have Hra : Hid (rows l1 ++ rows l2 = rows (l1 ++ l2)) := (rows_append l1 l2).symm
  clear h hlen
  generalize hn1 : l1.length = n1 at *
  generalize hn2 : l2.length = n2 at *
  rw [hll]
  clear hll
  by_cases hne : cap = n1 + 1
  · have hn0 : n2 = 0 := by omega
    subst hn0
    have hnil : l2 = [] := List.eq_nil_of_length_eq_zero hn2
    subst hnil
    subst hne
    clear hn2 HN2
    simp only [Nat.add_zero, List.append_nil]
    go_enter Yba.func17, Yba.ntmps17
    go_wp2_with (at_make; refine wpList_make_own _ rfl _ _ 79 rfl w.heap.size 91 i0 _ 4 Yba.underlying79 hi hz0 hz1 _ _ _ (n1 + 1) rfl rfl (by omega) (by rw [hz2]; omega) (by unfold maxLen; omega) (by simp) ?_)
    intro w1 hown1 hg1
    have HO1 : Hid (w1.ownsRow w.heap.size 91 4 (.slice (some ⟨w.heap.size, 0, none⟩) 0 (n1 + 1)) 0 []) := hown1
    have HG1 : Hid (w.grownBy w1 none) := hg1
    clear hown1 hg1
    go_wp2_with (first
      | (at_builtin; refine wpList_append_fits _ rfl (.tmp 9) (.tmp 12) 79 rfl w.heap.size 91 i0 4 Yba.underlying79 hi hz1 w.heap.size 0 (n1 + 1) [] rfl HO1.out ⟨g, 0, none⟩ n1 (n1 + 1) (rows l1) rfl hr1 (HN1.out _ HG1.out) (rows_one l1) (by omega) ?_; intro w2 hown2 hg2; rw [Nat.zero_add, List.nil_append] at hown2; have HO2 : Hid (w2.ownsRow w.heap.size 91 4 (.slice (some ⟨w.heap.size, 0, none⟩) n1 (n1 + 1)) n1 (rows l1)) := hown2; have HG2 : Hid (w.grownBy w2 none) := grown_fresh HG1.out hg2 (Nat.le_refl _); clear hown2 hg2)
      | (at_builtin; refine wpList_append_fits _ rfl (.tmp 14) (.tmp 18) 79 rfl w.heap.size 91 i0 4 Yba.underlying79 hi hz1 w.heap.size n1 (n1 + 1) (rows l1) rfl HO2.out ⟨g, 0, none⟩ 0 0 [] rfl rfl (fun j u hj => by cases hj) (fun u hu => by cases hu) (by omega) ?_; intro w3 hown3 hg3; have HO3 : Hid (w3.ownsRow w.heap.size 91 4 (.slice (some ⟨w.heap.size, 0, none⟩) (n1 + 0) (n1 + 1)) (n1 + 0) (rows l1 ++ [])) := hown3; have HG3 : Hid (w.grownBy w3 none) := grown_fresh HG2.out hg3 (Nat.le_refl _); clear hown3 hg3))
    go_ret
    refine ⟨w.heap.size, n1 + 1, rfl, Nat.le_refl _, Or.inr ⟨_, _, by rw [hn1], ?_⟩, HG3.out⟩
    have := HO3.out
    rw [List.append_nil, Nat.add_zero] at this
    rw [hn1]
    exact own_base this
  · go_enter Yba.func17, Yba.ntmps17
    go_wp2_with (at_make; refine wpList_make_own _ rfl _ _ 79 rfl w.heap.size 91 i0 _ 4 Yba.underlying79 hi hz0 hz1 _ _ _ (n1 + 1 + n2) rfl rfl (by omega) (by rw [hz2]; omega) (by unfold maxLen; omega) (by simp) ?_)
    intro w1 hown1 hg1
    have HO1 : Hid (w1.ownsRow w.heap.size 91 4 (.slice (some ⟨w.heap.size, 0, none⟩) 0 (n1 + 1 + n2)) 0 []) := hown1
    have HG1 : Hid (w.grownBy w1 none) := hg1
    clear hown1 hg1
    go_wp2_with (first
      | (at_builtin; refine wpList_append_fits _ rfl (.tmp 9) (.tmp 12) 79 rfl w.heap.size 91 i0 4 Yba.underlying79 hi hz1 w.heap.size 0 (n1 + 1 + n2) [] rfl HO1.out ⟨g, 0, none⟩ n1 cap (rows l1) rfl hr1 (HN1.out _ HG1.out) (rows_one l1) (by omega) ?_; intro w2 hown2 hg2; rw [Nat.zero_add, List.nil_append] at hown2; have HO2 : Hid (w2.ownsRow w.heap.size 91 4 (.slice (some ⟨w.heap.size, 0, none⟩) n1 (n1 + 1 + n2)) n1 (rows l1)) := hown2; have HG2 : Hid (w.grownBy w2 none) := grown_fresh HG1.out hg2 (Nat.le_refl _); clear hown2 hg2)
      | (at_builtin; refine wpList_append_fits _ rfl (.tmp 14) (.tmp 18) 79 rfl w.heap.size 91 i0 4 Yba.underlying79 hi hz1 w.heap.size n1 (n1 + 1 + n2) (rows l1) rfl HO2.out ⟨g, (n1 + 1) * 4, none⟩ n2 (cap - (n1 + 1)) (rows l2) rfl hr2 (HN2.out _ HG2.out) (rows_one l2) (by omega) ?_; intro w3 hown3 hg3; have HO3 : Hid (w3.ownsRow w.heap.size 91 4 (.slice (some ⟨w.heap.size, 0, none⟩) (n1 + n2) (n1 + 1 + n2)) (n1 + n2) (rows l1 ++ (rows l2))) := hown3; have HG3 : Hid (w.grownBy w3 none) := grown_fresh HG2.out hg3 (Nat.le_refl _); clear hown3 hg3))
    go_ret
    have hll : (l1 ++ l2).length = n1 + n2 := by rw [List.length_append, hn1, hn2]
    refine ⟨w.heap.size, n1 + 1 + n2, rfl, Nat.le_refl _, Or.inr ⟨_, _, by rw [hll], ?_⟩, HG3.out⟩
    have := HO3.out
    rw [Hra.out] at this
    rw [hll]
    exact own_base this

theorem key_ne {a b : ByteArray} (h : a ≠ b) : (a.toList == b.toList) = false := by
  rw [beq_eq_false_iff_ne]
  rw [ByteArray.toList_eq, ByteArray.toList_eq]
  exact fun e => h (kl_inj e)

set_option maxHeartbeats 1600000 in
/-- Where the key stands. -/
theorem find_hit (v : Value) (l1 l2 : List Ent) (e : Ent) (key : ByteArray) (w : World) (h : MR w v (l1 ++ e :: l2)) (hL : (l1 ++ e :: l2).length ≤ 900) (hk : e.key = key) (hn : ∀ x ∈ l1, x.key ≠ key) : Calls Yba.prog 15 #[v, .string key] w fun r w' => r = .returned (.int .i64 l1.length) ∧ w' = w := by
  obtain ⟨g, cap, rfl, hcap, c0, _, _, _⟩ := h.at'
  have hlen : (l1 ++ e :: l2).length = l1.length + 1 + l2.length := by simp; omega
  have HC : Hid (∀ i (hi : i < l1.length), w.cell? ⟨g, i * 4, none⟩ = some (.string l1[i].key)) := fun i hi => by
    rcases h with ⟨_, h⟩ | ⟨g', cap', hv, h⟩
    · simp at h
    · injection hv with hv; injection hv with hv; injection hv with hv
      subst hv
      have e1 : l1 ++ e :: l2 = l1.take i ++ l1[i] :: (l1.drop (i + 1) ++ e :: l2) := by
        rw [← List.cons_append, List.getElem_cons_drop hi, ← List.append_assoc, List.take_append_drop]
      rw [h.cellAt _ (by rw [hlen]; omega), e1]
      have := rows_at (l1.take i) (l1.drop (i + 1) ++ e :: l2) l1[i] 0 (by decide)
      rw [List.length_take, Nat.min_eq_left (Nat.le_of_lt hi)] at this
      exact this
  have HK : Hid (∀ i (hi : i < l1.length), l1[i].key ≠ key) := fun i hi => hn _ (List.getElem_mem hi)
  rw [hk] at c0
  rw [hlen] at hL
  clear h hn hk hlen
  go_enter Yba.func15, Yba.ntmps15
  go_wp2
  go_loop [5] (fun si => ∃ q : Nat, q ≤ l1.length ∧ si = .int .i64 q) (fun si => l1.length + 1 - (intOf si).toNat)
  case atStart => exact ⟨0, Nat.zero_le _, rfl⟩
  case round =>
    obtain ⟨q, hq, rfl⟩ := hrel
    have hltI : (q : Int) < (l1.length : Int) + 1 + (l2.length : Int) := by omega
    by_cases hlt : q < l1.length
    · have c1 := HC.out q hlt
      have k1 := HK.out q hlt
      clear HC HK
      generalize (l1[q]'hlt).key = kq at *
      have hd := key_ne k1
      go_wp2
      go_round
      case rel => exact ⟨q + 1, by omega, by go_num⟩
      case measure => simp [intOf]; omega
    · obtain rfl : q = l1.length := by omega
      clear HC HK
      go_wp2
      go_ret
      exact ⟨rfl, rfl⟩

set_option maxHeartbeats 1600000 in
/-- The key does not stand there. -/
theorem find_miss (v : Value) (L : List Ent) (key : ByteArray) (w : World) (h : MR w v L) (hL : L.length ≤ 900) (hn : ∀ x ∈ L, x.key ≠ key) : Calls Yba.prog 15 #[v, .string key] w fun r w' => r = .returned (.int .i64 (-1)) ∧ w' = w := by
  have HK : Hid (∀ i (hi : i < L.length), L[i].key ≠ key) := fun i hi => hn _ (List.getElem_mem hi)
  obtain ⟨ao, cap, rfl, HC⟩ : ∃ ao cap, v = .slice ao L.length cap ∧ Hid (∀ i (hi : i < L.length), ∃ g, ao = some ⟨g, 0, none⟩ ∧ w.cell? ⟨g, i * 4, none⟩ = some (.string L[i].key)) := by
    rcases h with ⟨rfl, rfl⟩ | ⟨g, cap, rfl, h⟩
    · exact ⟨none, 0, rfl, fun i hi => by cases hi⟩
    · refine ⟨_, _, rfl, fun i hi => ⟨g, rfl, ?_⟩⟩
      have e1 : L = L.take i ++ L[i] :: L.drop (i + 1) := by
        rw [List.getElem_cons_drop hi, List.take_append_drop]
      have hr := rows_at (L.take i) (L.drop (i + 1)) L[i] 0 (by decide)
      rw [List.length_take, Nat.min_eq_left (Nat.le_of_lt hi), ← e1] at hr
      rw [h.cellAt _ (by omega)]
      exact hr
  clear h hn
  go_enter Yba.func15, Yba.ntmps15
  go_wp2
  go_loop [5] (fun si => ∃ q : Nat, q ≤ L.length ∧ si = .int .i64 q) (fun si => L.length - (intOf si).toNat)
  case atStart => exact ⟨0, Nat.zero_le _, rfl⟩
  case round =>
    obtain ⟨q, hq, rfl⟩ := hrel
    by_cases hlt : q < L.length
    · obtain ⟨g, rfl, c1⟩ := HC.out q hlt
      have k1 := HK.out q hlt
      clear HC HK
      generalize (L[q]'hlt).key = kq at *
      have hd := key_ne k1
      have hltI : (q : Int) < (L.length : Int) := by omega
      go_wp2
      go_round
      case rel => exact ⟨q + 1, by omega, by go_num⟩
      case measure => simp [intOf]; omega
    · clear HC HK
      go_wp2
      go_ret
      exact ⟨rfl, rfl⟩
end Go.Proofs.Ybulkdbks

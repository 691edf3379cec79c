import Derived.Test.YbulkdbksRow
namespace Go.Proofs.Ybulkdbks
open Go Go.RowKit

/-- The first words are written. -/
structure WRow (w0 w : World) (b m : Nat) (xs : List ByteArray) : Prop where
  wr : Wr w b
  cel : ∀ i, i < m → ∃ v, w.cell? ⟨b, i, none⟩ = some v
  at' : ∀ (j : Nat) x, xs[j]? = some x → w.cell? ⟨b, j, none⟩ = some (.string x)
  one : ∀ x ∈ xs, x.size = 1
  gr : w0.grownBy w none

set_option maxHeartbeats 1600000 in
set_option maxRecDepth 100000 in
theorem words_any (k a : Int) (hk : 0 ≤ k ∧ k < 256) (ha : 0 ≤ a ∧ a < 256) (w : World) : Calls Yba.prog 12 #[.int .u8 k, .int .u8 a] w fun r w' => ∃ xs : List ByteArray, xs.length ≤ 4 ∧ r = .returned (.slice (some ⟨w.heap.size + 1, 0, none⟩) xs.length xs.length) ∧ WRow w w' (w.heap.size + 1) xs.length xs := by
  obtain ⟨i0, hi, hz0, hz1, hz2⟩ := info_parts info9
  obtain ⟨c, hc, hc4⟩ : ∃ c : Nat, k % 5 = c ∧ c ≤ 4 := ⟨(k % 5).toNat, by omega, by omega⟩
  go_enter Yba.func12, Yba.ntmps12
  go_wp2_with (at_make; (refine wpList_make_full _ rfl _ _ 32 rfl w.heap.size 9 i0 _ 1 Yba.underlying32 hi hz0 hz1 _ _ _ _ c rfl rfl (by omega) (by omega) (by rw [hz2]; omega) (by unfold maxLen; omega) (by simp) ?_))
  intro w1 hown1 hg1
  have gal := World.grownBy_alloc w (.cells #[.string ⟨#[97]⟩, .string ⟨#[98]⟩, .string ⟨#[99]⟩] 115) none
  have HW : Hid (WRow w w1 (w.heap.size + 1) c []) := ⟨row_wr hown1, fun i hi => ⟨_, (hown1.cellAt i (by omega)).trans (List.getElem?_eq_getElem (by rw [hown1.1]; omega))⟩, fun j x h => (by cases h), fun x h => (by cases h), grown_trans gal hg1⟩
  have HT : Hid (w1.heap[w.heap.size]? = some (.cells #[.string ⟨#[97]⟩, .string ⟨#[98]⟩, .string ⟨#[99]⟩] 115 (0, 0))) := (hg1.block _ (by simp) (by simp)).trans heap_new
  clear hown1 hg1 gal
  go_wp2_with fail
  go_loopw [8] (fun si wr => ∃ xs : List ByteArray, xs.length ≤ c ∧ si = .int .i64 xs.length ∧ WRow w wr (w.heap.size + 1) c xs ∧ wr.heap[w.heap.size]? = some (.cells #[.string ⟨#[97]⟩, .string ⟨#[98]⟩, .string ⟨#[99]⟩] 115 (0, 0))) (fun si _ => c - (intOf si).toNat)
  case atStart => exact ⟨[], Nat.zero_le _, rfl, HW.out, HT.out⟩
  case round =>
    obtain ⟨xs, hx, rfl, hW, hT⟩ := hrel
    have HX : Hid (WRow w wr (w.heap.size + 1) c xs) := hW
    have HT2 : Hid (wr.heap[w.heap.size]? = some (.cells #[.string ⟨#[97]⟩, .string ⟨#[98]⟩, .string ⟨#[99]⟩] 115 (0, 0))) := hT
    clear hW hT HW HT
    generalize hq : xs.length = q at *
    by_cases hlt : q < c
    · have hq3 : q = 0 ∨ q = 1 ∨ q = 2 ∨ q = 3 := by omega
      have HTB : Hid (∀ t : Int, 0 ≤ t → t < 3 → ∃ x : ByteArray, x.size = 1 ∧ wr.cell? ⟨w.heap.size, t.toNat, none⟩ = some (.string x)) := fun t h0 h3 => by
        have h := HT2.out
        have ht : t = 0 ∨ t = 1 ∨ t = 2 := by omega
        rcases ht with rfl | rfl | rfl
        · exact ⟨⟨#[97]⟩, rfl, by unfold World.cell?; rw [h]; rfl⟩
        · exact ⟨⟨#[98]⟩, rfl, by unfold World.cell?; rw [h]; rfl⟩
        · exact ⟨⟨#[99]⟩, rfl, by unfold World.cell?; rw [h]; rfl⟩
      have HSt : Hid (∀ x : ByteArray, x.size = 1 → WRow w (wr.setCell ⟨w.heap.size + 1, q, none⟩ (.string x)) (w.heap.size + 1) c (xs ++ [x]) ∧ (wr.setCell ⟨w.heap.size + 1, q, none⟩ (.string x)).heap[w.heap.size]? = some (.cells #[.string ⟨#[97]⟩, .string ⟨#[98]⟩, .string ⟨#[99]⟩] 115 (0, 0))) := fun x hx1 => by
        have h := HX.out
        obtain ⟨v0, hv0⟩ := h.cel q hlt
        refine ⟨⟨h.wr.set _ _ _, fun i hi => ?_, fun j y hy => ?_, fun y hy => ?_, grown_fresh h.gr (grown_set wr _ _ _) (Nat.le_succ _)⟩, ?_⟩
        · by_cases e : q = i
          · subst e; exact ⟨_, cs_eq rfl hv0⟩
          · rw [cs_ne rfl (fun h => e h.2)]; exact h.cel i hi
        · by_cases e : j < q
          · rw [List.getElem?_append_left (by omega)] at hy
            rw [cs_ne rfl (fun h => by omega)]; exact h.at' j y hy
          · rw [List.getElem?_append_right (by omega), hq] at hy
            have hj : j = q := by
              have := (List.getElem?_eq_some_iff.1 hy).1
              simp at this
              omega
            subst hj
            simp at hy
            subst hy
            exact cs_eq rfl hv0
        · rcases List.mem_append.1 hy with hy | hy
          · exact h.one y hy
          · simp at hy; subst hy; exact hx1
        · rw [heap_set_ne (by omega)]; exact HT2.out
      obtain ⟨v0, hv0⟩ := HX.out.cel q hlt
      have fz := HX.out.wr.fz q
      have hltI : (q : Int) < (c : Int) := by omega
      have Hq : Hid _ := hq
      clear hq
      rcases hq3 with rfl | rfl | rfl | rfl
      · obtain ⟨x, hx1, hcx⟩ := HTB.out (a % 3) (by omega) (by omega)
        go_wp2_with fail
        go_roundw
        case rel => exact ⟨xs ++ [x], by rw [List.length_append, Hq.out]; simp; omega, by rw [List.length_append, Hq.out]; rfl, (HSt.out x hx1).1, (HSt.out x hx1).2⟩
        case measure => simp [intOf]; omega
      · obtain ⟨x, hx1, hcx⟩ := HTB.out (a / 4 % 3) (by omega) (by omega)
        go_wp2_with fail
        go_roundw
        case rel => exact ⟨xs ++ [x], by rw [List.length_append, Hq.out]; simp; omega, by rw [List.length_append, Hq.out]; rfl, (HSt.out x hx1).1, (HSt.out x hx1).2⟩
        case measure => simp [intOf]; omega
      · obtain ⟨x, hx1, hcx⟩ := HTB.out (a / 16 % 3) (by omega) (by omega)
        go_wp2_with fail
        go_roundw
        case rel => exact ⟨xs ++ [x], by rw [List.length_append, Hq.out]; simp; omega, by rw [List.length_append, Hq.out]; rfl, (HSt.out x hx1).1, (HSt.out x hx1).2⟩
        case measure => simp [intOf]; omega
      · obtain ⟨x, hx1, hcx⟩ := HTB.out (a / 64 % 3) (by omega) (by omega)
        go_wp2_with fail
        go_roundw
        case rel => exact ⟨xs ++ [x], by rw [List.length_append, Hq.out]; simp; omega, by rw [List.length_append, Hq.out]; rfl, (HSt.out x hx1).1, (HSt.out x hx1).2⟩
        case measure => simp [intOf]; omega
    · obtain rfl : q = c := by omega
      have Hq : Hid _ := hq
      clear hq
      go_wp2_with fail
      go_ret
      have h := HX.out
      exact ⟨xs, by rw [Hq.out]; omega, by rw [Hq.out]; rfl, ⟨h.wr, fun i hi => h.cel i (by rw [Hq.out] at hi; exact hi), h.at', h.one, h.gr⟩⟩

/-- What the law's own join builds. -/
def joinTo (xs : List ByteArray) : Nat → ByteArray
  | 0 => ⟨#[]⟩
  | i + 1 => (if 0 < i then joinTo xs i ++ ⟨#[32]⟩ else joinTo xs i) ++ xs.getD i ByteArray.empty

theorem joinTo_eq (xs : List ByteArray) (h : xs.length ≤ 4) : joinTo xs xs.length = joinB xs := by
  apply kl_inj
  match xs, h with
  | [], _ => rfl
  | [a], _ => simp [joinTo, joinB, Lib.join, List.intercalate, ByteArray.data_append]
  | [a, b], _ => simp [joinTo, joinB, Lib.join, List.intercalate, List.intersperse, ByteArray.data_append]
  | [a, b, c], _ => simp [joinTo, joinB, Lib.join, List.intercalate, List.intersperse, ByteArray.data_append]
  | [a, b, c, d], _ => simp [joinTo, joinB, Lib.join, List.intercalate, List.intersperse, ByteArray.data_append]

theorem sp1 : (⟨#[32]⟩ : ByteArray).size = 1 := rfl

theorem joinTo_size (xs : List ByteArray) (h1 : ∀ x ∈ xs, x.size = 1) : ∀ i, i ≤ xs.length → (joinTo xs i).size ≤ 2 * i := by
  intro i
  induction i with
  | zero => intro _; exact Nat.le_refl _
  | succ i ih =>
    intro hi
    have := ih (by omega)
    have h2 : (xs.getD i ByteArray.empty).size = 1 := by
      rw [List.getD_eq_getElem?_getD, List.getElem?_eq_getElem (by omega)]
      exact h1 _ (List.getElem_mem _)
    unfold joinTo
    split <;> simp only [ByteArray.size_append, h2, sp1] <;> omega

set_option maxHeartbeats 1600000 in
theorem join_any (b c : Nat) (xs : List ByteArray) (h4 : xs.length ≤ 4) (h1 : ∀ x ∈ xs, x.size = 1) (w : World) (hk : KwAt w b xs) : Calls Yba.prog 13 #[.slice (some ⟨b, 0, none⟩) xs.length c] w fun r w' => r = .returned (.string (joinB xs)) ∧ w' = w := by
  have HJ : Hid _ := joinTo_eq xs h4
  have HS : Hid _ := joinTo_size xs h1
  have HC : Hid (∀ i (hi : i < xs.length), w.cell? ⟨b, i, none⟩ = some (.string (xs.getD i ByteArray.empty)) ∧ (xs.getD i ByteArray.empty).size = 1) := fun i hi => by
    rw [List.getD_eq_getElem?_getD, List.getElem?_eq_getElem hi]
    exact ⟨hk.2 i _ (List.getElem?_eq_getElem hi), h1 _ (List.getElem_mem _)⟩
  clear hk h1
  go_enter Yba.func13, Yba.ntmps13
  go_wp2
  go_loop [3, 4] (fun s si => ∃ q : Nat, q ≤ xs.length ∧ si = .int .i64 q ∧ s = .string (joinTo xs q)) (fun _ si => xs.length - (intOf si).toNat)
  case atStart => exact ⟨0, Nat.zero_le _, rfl, rfl⟩
  case round =>
    obtain ⟨q, hq, rfl, rfl⟩ := hrel
    by_cases hlt : q < xs.length
    · obtain ⟨c0, hs0⟩ := HC.out q hlt
      have hs1 := HS.out q hq
      have HT : Hid (joinTo xs (q + 1) = (if 0 < q then joinTo xs q ++ ⟨#[32]⟩ else joinTo xs q) ++ xs.getD q ByteArray.empty) := rfl
      clear HC HS
      have hltI : (q : Int) < (xs.length : Int) := by omega
      generalize joinTo xs q = T0 at *
      generalize xs.getD q ByteArray.empty = x at *
      by_cases h0 : 0 < q
      · have h0I : (0 : Int) < (q : Int) := by omega
        rw [if_pos h0] at HT
        go_wp2
        go_round
        case rel => exact ⟨q + 1, by omega, by go_num, by rw [HT.out]⟩
        case measure => simp [intOf]; omega
      · have h0I : ¬ (0 : Int) < (q : Int) := by omega
        rw [if_neg h0] at HT
        go_wp2
        go_round
        case rel => exact ⟨q + 1, by omega, by go_num, by rw [HT.out]⟩
        case measure => simp [intOf]; omega
    · obtain rfl : q = xs.length := by omega
      rw [HJ.out]
      clear HC HS HJ
      go_wp2
      go_ret
      exact ⟨rfl, rfl⟩

theorem joinB_small {xs : List ByteArray} (h4 : xs.length ≤ 4) (h1 : ∀ x ∈ xs, x.size = 1) : (joinB xs).size ≤ 100 := by
  rw [← joinTo_eq xs h4]
  have := joinTo_size xs h1 xs.length (Nat.le_refl _)
  omega
end Go.Proofs.Ybulkdbks

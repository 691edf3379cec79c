import Derived.Test.YbulkdbgyBits
namespace Go.Proofs.Ybulkdbgy
open Go.RowKit

theorem Yba.info9 : (Yba.prog.info? 9).map (fun i => (i.zero, i.size, i.bytes)) = some (some (.string ByteArray.empty), 1, 16) := by kernel_rfl

theorem wb_len (n b off cap : Nat) (ss : List ByteArray) (w : World) (hn : ss.length = n) (hlen : n ≤ 4611686018427387904)
    (hc : ∀ j, j < n → w.cell? ⟨b, off + j, none⟩ = some (.string (ss.getD j ByteArray.empty))) (hsz : ∀ s ∈ ss, s.size ≤ maxLen) :
    Calls Yba.prog 5 #[.slice (some ⟨b, off, none⟩) n cap] w fun e w' => e = .returned (.int .u64 (wbN (datas ss) : Nat)) ∧ w' = w := by
  subst hn; exact wb_any b off cap ss w hlen hc hsz

def P1 : ByteArray := ⟨#[60, 42, 62]⟩
def P2 : ByteArray := ⟨#[60, 120, 95, 49, 62]⟩
def dblB (ss : List ByteArray) : List ByteArray := ss.reverse.flatMap (fun s => [s, s])

theorem dblB_cons (s : ByteArray) (ss : List ByteArray) : dblB (s :: ss) = dblB ss ++ [s] ++ [s] := by simp [dblB]
theorem dblB_len (ss : List ByteArray) : (dblB ss).length = 2 * ss.length := by
  induction ss with
  | nil => rfl
  | cons s r ih => rw [dblB_cons]; simp [ih]; omega
theorem dblB_drop (ss : List ByteArray) (j : Nat) (h : j < ss.length) : dblB (ss.drop j) = dblB (ss.drop (j + 1)) ++ [ss.getD j ByteArray.empty] ++ [ss.getD j ByteArray.empty] := by
  rw [List.drop_eq_getElem_cons h, dblB_cons]; simp [h]
theorem datas_dblB (ss : List ByteArray) : datas (dblB ss) = dbl (datas ss) := by
  unfold dbl dblB datas
  rw [← List.map_reverse]
  generalize ss.reverse = r
  induction r with
  | nil => rfl
  | cons s r ih => simp [ih]
theorem datas_dbl (ss : List ByteArray) : datas (dblB ss ++ [P1, P2]) = dbl (datas ss) ++ [[60, 42, 62], [60, 120, 95, 49, 62]] := by
  rw [← datas_dblB]; simp [datas, P1, P2]
theorem mem_dblB {s : ByteArray} {ss : List ByteArray} (h : s ∈ dblB ss) : s ∈ ss := by
  simpa [dblB] using h
theorem dbl_sizes {ss : List ByteArray} (h : ∀ s ∈ ss, s.size ≤ maxLen) : ∀ s ∈ dblB ss ++ [P1, P2], s.size ≤ maxLen := by
  intro s hs
  rcases List.mem_append.1 hs with hs | hs
  · exact h s (mem_dblB hs)
  · simp at hs; rcases hs with rfl | rfl <;> decide

theorem strAt (l : List ByteArray) (j : Nat) (h : j < l.length) : (l.map Value.string)[j]? = some (.string (l.getD j ByteArray.empty)) := by
  simp [h]

theorem and_one (ls : List (List UInt8)) : bits .and .u64 ((wbN ls : Nat) : Int) 1 = 1 := by
  have := u64_and_nat (wbN ls) 1 (wbN_lt ls) (by decide)
  rw [wbN_and_one] at this
  exact this

set_option maxHeartbeats 1600000 in
theorem order_any (b off n cap : Nat) (ss : List ByteArray) (w : World) (hn : ss.length = n) (h1 : n ≤ 1024) (hb : b < w.heap.size)
    (hc : ∀ j, j < n → w.cell? ⟨b, off + j, none⟩ = some (.string (ss.getD j ByteArray.empty))) (hsz : ∀ s ∈ ss, s.size ≤ maxLen) :
    Calls Yba.prog 4 #[.slice (some ⟨b, off, none⟩) n cap] w fun e w' => e = .returned (.bool true) ∧ Below w.heap.size w w' := by
  obtain ⟨i0, hi, hz0, hz1, hz2⟩ := info_parts Yba.info9
  have Hn : Hid (ss.length = n) := hn
  have Hc : Hid (∀ j, j < n → w.cell? ⟨b, off + j, none⟩ = some (.string (ss.getD j ByteArray.empty))) := hc
  have Hsz : Hid (∀ s ∈ ss, s.size ≤ maxLen) := hsz
  clear hn hc hsz
  go_enter Yba.func4, Yba.ntmps4
  go_wp2_with (at_make; refine wpList_make_own _ rfl _ _ 22 rfl w.heap.size 9 i0 (.string ByteArray.empty) 1 Yba.underlying22 hi hz0 hz1 _ _ _ (2 * n + 2) rfl rfl (by omega) ?b2 ?b3 (Nat.le_refl _) ?_)
  case b2 => rw [hz2]; omega
  case b3 => unfold maxLen; omega
  intro w0 hown0 hgrow0
  go_wp2
  go_loopw [4, 5] (fun out si wr => ∃ k : Nat, ∃ q : Int, k ≤ n ∧ si = .int .i64 q ∧ q = (k : Int) - 1 ∧ out = .slice (some ⟨w.heap.size, 0, none⟩) (2 * (n - k)) (2 * n + 2) ∧
      wr.ownsRow w.heap.size 9 1 (.slice (some ⟨w.heap.size, 0, none⟩) (2 * (n - k)) (2 * n + 2)) (2 * (n - k)) ((dblB (ss.drop k)).map Value.string) ∧ Below w.heap.size w wr)
    (fun _ si _ => (intOf si + 1).toNat)
  case atStart =>
    have e0 : ss.drop n = [] := List.drop_eq_nil_of_le (by rw [Hn.out]; exact Nat.le_refl _)
    refine ⟨n, _, Nat.le_refl _, rfl, rfl, by simp, by rw [e0]; simpa [dblB] using hown0, (Below.refl _ _).grown hgrow0 (Nat.le_refl _) (fun k h => by cases h)⟩
  case round =>
    obtain ⟨k, q, hk, rfl, hq, rfl, hown, hnx⟩ := hrel
    by_cases hk0 : k = 0
    · subst hk0
      have hnz : w.heap.size ≤ wr.heap.size := hnx.size
      obtain rfl : q = -1 := by omega
      clear hq
      go_wp2_with (at_builtin; refine wpList_append_fits _ rfl (.tmp 37) (.tmp 38) 22 rfl w.heap.size 9 i0 1 Yba.underlying22 hi hz1 w.heap.size (2 * (n - 0)) (2 * n + 2) _ rfl (hown.alloc _) ⟨wr.heap.size, 0, none⟩ 2 2 [.string P1, .string P2] rfl rfl ?c1 ?c2 ?c3 ?_)
      case c1 =>
        intro j u hj
        match j, hj with
        | 0, hj => simp at hj; subst hj; simp [Addr.add, P1]
        | 1, hj => simp at hj; subst hj; simp [Addr.add, P2]
      case c2 => intro u hu; simp at hu; rcases hu with rfl | rfl <;> rfl
      case c3 => omega
      intro w1 hown1 hgrow1
      have hb1 : Below w.heap.size w w1 := (hnx.alloc hnz _).grown hgrow1 (by simp; omega) (fun k hk => by cases hk; exact Nat.le_refl _)
      have hown1' : w1.ownsRow w.heap.size 9 1 (.slice (some ⟨w.heap.size, 0, none⟩) (2 * n + 2) (2 * n + 2)) (2 * n + 2) ((dblB ss ++ [P1, P2]).map Value.string) := by simpa using hown1
      have hlo : (dblB ss ++ [P1, P2]).length = 2 * n + 2 := by simp [dblB_len, Hn.out]
      have Hco : Hid (∀ j, j < 2 * n + 2 → w1.cell? ⟨w.heap.size, 0 + j, none⟩ = some (.string ((dblB ss ++ [P1, P2]).getD j ByteArray.empty))) := fun j hj => by
        rw [Nat.zero_add, hown1'.cellAt j (by omega)]
        exact strAt _ j (by omega)
      have Hlo : Hid ((dblB ss ++ [P1, P2]).length = 2 * n + 2) := hlo
      have Hcw : Hid (∀ j, j < n → w1.cell? ⟨b, off + j, none⟩ = some (.string (ss.getD j ByteArray.empty))) := fun j hj => (hb1.cell (by exact hb)).trans (Hc.out j hj)
      clear hlo hown1' hown1 hgrow1 hown
      go_wp2_with fail
      refine (wb_len n b off cap ss _ Hn.out (by omega) Hcw.out Hsz.out).mono ?_
      rintro e w2 ⟨rfl, rfl⟩
      go_wp2_with fail
      refine (wb_len (2 * n + 2) w.heap.size 0 (2 * n + 2) (dblB ss ++ [P1, P2]) _ Hlo.out (by omega) Hco.out (dbl_sizes Hsz.out)).mono ?_
      rintro e w3 ⟨rfl, rfl⟩
      rw [datas_dbl, order_law]
      have hand := and_one (datas ss)
      generalize wbN (datas ss) = N at *
      go_wp2_with fail
      refine (wb_empty none 0 _).mono ?_
      rintro e w4 ⟨rfl, rfl⟩
      go_wp2
      go_ret
      exact ⟨rfl, hb1⟩
    · obtain ⟨j, rfl⟩ : ∃ j, k = j + 1 := ⟨k - 1, by omega⟩
      obtain rfl : q = (j : Int) := by omega
      clear hq hk0
      have hck : wr.cell? ⟨b, off + j, none⟩ = some (.string (ss.getD j ByteArray.empty)) := (hnx.cell (by exact hb)).trans (Hc.out j (by omega))
      obtain ⟨s, hs⟩ : ∃ s, s = ss.getD j ByteArray.empty := ⟨_, rfl⟩
      rw [← hs] at hck
      have HD : Hid (dblB (ss.drop j) = dblB (ss.drop (j + 1)) ++ [s] ++ [s]) := by rw [hs]; exact dblB_drop ss j (by rw [Hn.out]; omega)
      clear hs
      have hnz : w.heap.size ≤ wr.heap.size := hnx.size
      go_wp2_with (first
        | (at_builtin; refine wpList_append_fits _ rfl (.tmp 23) (.tmp 28) 22 rfl w.heap.size 9 i0 1 Yba.underlying22 hi hz1 w.heap.size (2 * (n - (j + 1))) (2 * n + 2) _ rfl (hown.alloc _) ⟨wr.heap.size, 0, none⟩ 1 1 [.string s] rfl rfl (cell_one_new _ _ _) (by intro u hu; simp at hu; subst hu; rfl) (by omega) ?_; intro w1 hown1 hgrow1; have hck1 : w1.cell? ⟨b, off + j, none⟩ = some (.string s) := hgrow1.cell ((World.cell?_alloc_past _ _ _ (by omega)).trans hck) (fun e => by have h2 : b = w.heap.size := Option.some.inj e; omega))
        | (at_builtin; refine wpList_append_fits _ rfl (.tmp 30) (.tmp 35) 22 rfl w.heap.size 9 i0 1 Yba.underlying22 hi hz1 w.heap.size (2 * (n - (j + 1)) + 1) (2 * n + 2) _ rfl (hown1.alloc _) ⟨w1.heap.size, 0, none⟩ 1 1 [.string s] rfl rfl (cell_one_new _ _ _) (by intro u hu; simp at hu; subst hu; rfl) (by omega) ?_; intro w2 hown2 hgrow2))
      have e2 : 2 * (n - (j + 1)) + 1 + 1 = 2 * (n - j) := by omega
      rw [e2] at hown2
      go_roundw
      case rel => exact ⟨j, _, by omega, rfl, rfl, by rw [e2], by rw [HD.out]; simpa using hown2, ((hnx.alloc hnz _).grown hgrow1 (by simp; omega) (fun k hk => by cases hk; exact Nat.le_refl _)).alloc (by have := hgrow1.size; simp at this; omega) _ |>.grown hgrow2 (by have := hgrow1.size; simp at this; simp; omega) (fun k hk => by cases hk; exact Nat.le_refl _)⟩
      case measure => simp [intOf]

theorem order_long (a : Option Addr) (n cap : Nat) (w : World) (h1 : 1024 < n) :
    Calls Yba.prog 4 #[.slice a n cap] w fun e w' => e = .returned (.bool true) ∧ Below w.heap.size w w' := by
  go_enter Yba.func4, Yba.ntmps4
  go_wp2
  go_ret
  exact ⟨rfl, Below.refl _ _⟩

set_option maxHeartbeats 400000 in
theorem order_empty (a : Option Addr) (cap : Nat) (w : World) :
    Calls Yba.prog 4 #[.slice a 0 cap] w fun e w' => e = .returned (.bool true) ∧ Below w.heap.size w w' := by
  obtain ⟨i0, hi, hz0, hz1, hz2⟩ := info_parts Yba.info9
  go_enter Yba.func4, Yba.ntmps4
  go_wp2_with (at_make; refine wpList_make_own _ rfl _ _ 22 rfl w.heap.size 9 i0 (.string ByteArray.empty) 1 Yba.underlying22 hi hz0 hz1 _ _ _ 2 rfl rfl (by omega) ?b2 ?b3 (Nat.le_refl _) ?_)
  case b2 => rw [hz2]; omega
  case b3 => unfold maxLen; omega
  intro wr hown hgrow0
  have hnx : Below w.heap.size w wr := (Below.refl _ _).grown hgrow0 (Nat.le_refl _) (fun k h => by cases h)
  have hnz : w.heap.size ≤ wr.heap.size := hnx.size
  go_wp2
  refine wp_loop_rounds 1 ?_
  rw [rounds_succ]
  go_wp2_with (at_builtin; refine wpList_append_fits _ rfl (.tmp 37) (.tmp 38) 22 rfl w.heap.size 9 i0 1 Yba.underlying22 hi hz1 w.heap.size 0 2 _ rfl (hown.alloc _) ⟨wr.heap.size, 0, none⟩ 2 2 [.string P1, .string P2] rfl rfl ?c1 ?c2 ?c3 ?_)
  case c1 =>
    intro j u hj
    match j, hj with
    | 0, hj => simp at hj; subst hj; simp [Addr.add, P1]
    | 1, hj => simp at hj; subst hj; simp [Addr.add, P2]
  case c2 => intro u hu; simp at hu; rcases hu with rfl | rfl <;> rfl
  case c3 => omega
  intro w1 hown1 hgrow1
  have hb1 : Below w.heap.size w w1 := (hnx.alloc hnz _).grown hgrow1 (by simp; omega) (fun k hk => by cases hk; exact Nat.le_refl _)
  have hown1' : w1.ownsRow w.heap.size 9 1 (.slice (some ⟨w.heap.size, 0, none⟩) 2 2) 2 ((dblB [] ++ [P1, P2]).map Value.string) := by simpa [dblB] using hown1
  have Hco : Hid (∀ j, j < 2 → w1.cell? ⟨w.heap.size, 0 + j, none⟩ = some (.string ((dblB [] ++ [P1, P2]).getD j ByteArray.empty))) := fun j hj => by
    rw [Nat.zero_add, hown1'.cellAt j (by omega)]
    exact strAt _ j (by simpa [dblB] using hj)
  clear hown1' hown1 hgrow1 hown
  go_wp2_with fail
  refine (wb_empty a cap _).mono ?_
  rintro e w2 ⟨rfl, rfl⟩
  go_wp2_with fail
  refine (wb_len 2 w.heap.size 0 2 (dblB [] ++ [P1, P2]) _ rfl (by omega) Hco.out (dbl_sizes (by simp))).mono ?_
  rintro e w3 ⟨rfl, rfl⟩
  rw [datas_dbl, order_law]
  have hand : bits .and .u64 1 1 = 1 := and_one []
  rw [show wbN (datas []) = 1 from rfl]
  go_wp2_with fail
  refine (wb_empty none 0 _).mono ?_
  rintro e w4 ⟨rfl, rfl⟩
  go_wp2
  go_ret
  exact ⟨rfl, hb1⟩
end Go.Proofs.Ybulkdbgy

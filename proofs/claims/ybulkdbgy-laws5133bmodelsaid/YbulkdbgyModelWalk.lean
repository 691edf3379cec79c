import Derived.Test.YbulkdbgyZplace
import Derived.Test.YbulkdbgyOrderWalk
namespace Go.Proofs.Ybulkdbgy
open Go.RowKit

/-- The first k cells hold f, the rest z. -/
def fillTo {α : Type} (n k : Nat) (f : Nat → α) (z : α) : List α := (List.range n).map (fun i => if i < k then f i else z)
theorem fillTo_zero {α : Type} (n : Nat) (f : Nat → α) (z : α) : fillTo n 0 f z = List.replicate n z := by
  unfold fillTo
  apply List.ext_getElem
  · simp
  · intro i h1 h2; simp
theorem fillTo_set {α : Type} (n k : Nat) (f : Nat → α) (z : α) : (fillTo n k f z).set k (f k) = fillTo n (k + 1) f z := by
  unfold fillTo
  apply List.ext_getElem
  · simp
  · intro i h1 h2
    simp only [List.getElem_set, List.getElem_map, List.getElem_range]
    by_cases e : k = i
    · subst e; simp
    · simp only [e, if_false]
      by_cases hi : i < k
      · rw [if_pos hi, if_pos (by omega)]
      · rw [if_neg hi, if_neg (by omega)]
theorem fillTo_full {α : Type} (n : Nat) (f : Nat → α) (z : α) : fillTo n n f z = (List.range n).map f := by
  unfold fillTo
  apply List.map_congr_left
  intro i hi
  rw [if_pos (by simpa using hi)]
theorem fillTo_len {α : Type} (n k : Nat) (f : Nat → α) (z : α) : (fillTo n k f z).length = n := by simp [fillTo]

def LT : ByteArray := ⟨#[60]⟩
def GT : ByteArray := ⟨#[62]⟩
def wrapd (ss : List ByteArray) (len1 : Nat) (Bw : Nat → Bool) (i : Nat) : ByteArray :=
  if decide (i < len1) && Bw i then LT ++ ss.getD i ByteArray.empty ++ GT else ss.getD i ByteArray.empty
theorem wrapd_yes {ss : List ByteArray} {len1 : Nat} {Bw : Nat → Bool} {i : Nat} (h : i < len1) (hb : Bw i = true) : wrapd ss len1 Bw i = LT ++ ss.getD i ByteArray.empty ++ GT := by simp [wrapd, h, hb]
theorem wrapd_no {ss : List ByteArray} {len1 : Nat} {Bw : Nat → Bool} {i : Nat} (hb : Bw i = false) : wrapd ss len1 Bw i = ss.getD i ByteArray.empty := by simp [wrapd, hb]
theorem wrapd_past {ss : List ByteArray} {len1 : Nat} {Bw : Nat → Bool} {i : Nat} (h : ¬ i < len1) : wrapd ss len1 Bw i = ss.getD i ByteArray.empty := by simp [wrapd, h]
def wsL (n : Nat) (ss : List ByteArray) (len1 : Nat) (Bw : Nat → Bool) : List ByteArray := (List.range n).map (wrapd ss len1 Bw)
theorem wsL_len (n : Nat) (ss : List ByteArray) (len1 : Nat) (Bw : Nat → Bool) : (wsL n ss len1 Bw).length = n := by simp [wsL]
theorem wsL_sizes {n : Nat} {ss : List ByteArray} {len1 : Nat} {Bw : Nat → Bool} (h : ∀ s ∈ ss, s.size ≤ 140737488351232) : ∀ s ∈ wsL n ss len1 Bw, s.size ≤ maxLen := by
  intro s hs
  obtain ⟨i, _, rfl⟩ := List.mem_map.1 hs
  have h0 : (ss.getD i ByteArray.empty).size ≤ 140737488351232 := by
    by_cases hi : i < ss.length
    · rw [List.getD_eq_getElem?_getD, List.getElem?_eq_getElem hi]; exact h _ (List.getElem_mem hi)
    · rw [List.getD_eq_getElem?_getD, List.getElem?_eq_none (by omega)]; simp
  have h1 : LT.size = 1 := rfl
  have h2 : GT.size = 1 := rfl
  unfold wrapd maxLen
  split
  · simp only [ByteArray.size_append]; omega
  · omega

theorem and63 (x : Int) (h0 : 0 ≤ x) (h1 : x < 18446744073709551616) : bits .and .u64 x 63 = x % 64 := by
  rw [u64_and x 63 h0 h1 (by decide) (by decide)]
  have : x.toNat &&& (63 : Int).toNat = x.toNat % 64 := nat_mask6 _
  rw [this]; omega

theorem store_step {n k len1 : Nat} {ss : List ByteArray} {Bw : Nat → Bool} {w wr : World} (x : ByteArray) (hx : wrapd ss len1 Bw k = x)
    (hown : wr.ownsRow w.heap.size 9 1 (.slice (some ⟨w.heap.size, 0, none⟩) n n) n (fillTo n k (fun i => .string (wrapd ss len1 Bw i)) (.string ByteArray.empty))) (hnx : Below w.heap.size w wr) :
    (wr.setCell ⟨w.heap.size, k, none⟩ (.string x)).ownsRow w.heap.size 9 1 (.slice (some ⟨w.heap.size, 0, none⟩) n n) n (fillTo n (k + 1) (fun i => .string (wrapd ss len1 Bw i)) (.string ByteArray.empty)) ∧
    Below w.heap.size w (wr.setCell ⟨w.heap.size, k, none⟩ (.string x)) := by
  refine ⟨?_, hnx.setCell (Nat.le_refl _) _⟩
  rw [← fillTo_set]
  subst hx
  exact (hown.stored k _).1

set_option maxHeartbeats 1600000 in
theorem model_any (ao ao1 : Option Addr) (n cap len1 cap1 : Nat) (ss : List ByteArray) (Bw : Nat → Bool) (w : World) (hn : ss.length = n) (h1 : n ≤ 1024)
    (hlen1 : len1 ≤ 4611686018427387904)
    (hc : 0 < n → ∃ b off, ao = some ⟨b, off, none⟩ ∧ b < w.heap.size ∧ ∀ j, j < n → w.cell? ⟨b, off + j, none⟩ = some (.string (ss.getD j ByteArray.empty)))
    (hc1 : 0 < len1 → ∃ b off, ao1 = some ⟨b, off, none⟩ ∧ b < w.heap.size ∧ ∀ j, j < len1 → w.cell? ⟨b, off + j, none⟩ = some (.bool (Bw j)))
    (hsz : ∀ s ∈ ss, s.size ≤ 140737488351232) :
    Calls Yba.prog 3 #[.slice ao n cap, .slice ao1 len1 cap1] w fun e w' => e = .returned (.bool true) ∧ Below w.heap.size w w' := by
  obtain ⟨i0, hi, hz0, hz1, hz2⟩ := info_parts Yba.info9
  have Hn : Hid (ss.length = n) := hn
  have Hc : Hid (0 < n → ∃ b off, ao = some ⟨b, off, none⟩ ∧ b < w.heap.size ∧ ∀ j, j < n → w.cell? ⟨b, off + j, none⟩ = some (.string (ss.getD j ByteArray.empty))) := hc
  have Hc1 : Hid (0 < len1 → ∃ b off, ao1 = some ⟨b, off, none⟩ ∧ b < w.heap.size ∧ ∀ j, j < len1 → w.cell? ⟨b, off + j, none⟩ = some (.bool (Bw j))) := hc1
  have Hsz : Hid (∀ s ∈ ss, s.size ≤ 140737488351232) := hsz
  clear hn hc hc1 hsz
  go_enter Yba.func3, Yba.ntmps3
  go_wp2_with (at_make; refine wpList_make_full _ rfl _ _ 22 rfl w.heap.size 9 i0 (.string ByteArray.empty) 1 Yba.underlying22 hi hz0 hz1 _ _ _ _ n rfl rfl (by omega) (by omega) ?b2 ?b3 (Nat.le_refl _) ?_)
  case b2 => rw [hz2]; omega
  case b3 => unfold maxLen; omega
  intro w0 hown0 hgrow0
  go_wp2
  go_loopw [6, 7, 20] (fun _ _ si wr => ∃ k : Nat, k ≤ n ∧ si = .int .i64 k ∧
      wr.ownsRow w.heap.size 9 1 (.slice (some ⟨w.heap.size, 0, none⟩) n n) n (fillTo n k (fun i => .string (wrapd ss len1 Bw i)) (.string ByteArray.empty)) ∧ Below w.heap.size w wr)
    (fun _ _ si _ => n - (intOf si).toNat)
  case atStart =>
    refine ⟨0, Nat.zero_le _, rfl, ?_, (Below.refl _ _).grown hgrow0 (Nat.le_refl _) (fun k h => by cases h)⟩
    rw [fillTo_zero, ← toList_madeCells_one]
    simpa [Value.cells] using hown0
  case round =>
    obtain ⟨k, hk, rfl, hown, hnx⟩ := hrel
    by_cases hlt : k < n
    · obtain ⟨b, off, rfl, hb, hc⟩ := Hc.out (by omega)
      have hck : wr.cell? ⟨b, off + k, none⟩ = some (.string (ss.getD k ByteArray.empty)) := (hnx.cell (by exact hb)).trans (hc k hlt)
      have hfr := hown.frozenAt k
      have hce : ∃ v, wr.cell? ⟨w.heap.size, k, none⟩ = some v := ⟨_, (hown.cellAt k (by omega)).trans (List.getElem?_eq_getElem (by rw [fillTo_len]; exact hlt))⟩
      have HC : Hid (∀ j, j < n → w.cell? ⟨b, off + j, none⟩ = some (.string (ss.getD j ByteArray.empty))) := hc
      clear hc
      obtain ⟨s, hs⟩ : ∃ s, s = ss.getD k ByteArray.empty := ⟨_, rfl⟩
      rw [← hs] at hck
      have HS : Hid (s = ss.getD k ByteArray.empty) := hs
      clear hs
      have hss : s.size ≤ 140737488351232 := by rw [HS.out]; exact Hsz.out _ (by have := Hn.out; simp [show k < ss.length by omega])
      obtain ⟨vo, hvo⟩ := hce
      by_cases hl1 : k < len1
      · obtain ⟨b1, off1, rfl, hb1, hc1⟩ := Hc1.out (by omega)
        have hck1 : wr.cell? ⟨b1, off1 + k, none⟩ = some (.bool (Bw k)) := (hnx.cell (by exact hb1)).trans (hc1 k hl1)
        clear hc1
        cases hbk : Bw k
        · rw [hbk] at hck1
          have R := store_step s (by rw [HS.out]; exact wrapd_no hbk) hown hnx
          have HR := (show Hid _ from R)
          clear R hown
          go_wp2
          go_roundw
          case rel => exact ⟨k + 1, by omega, by go_num, HR.out.1, HR.out.2⟩
          case measure => simp [intOf]; omega
        · rw [hbk] at hck1
          have R := store_step (LT ++ s ++ GT) (by rw [HS.out]; exact wrapd_yes hl1 hbk) hown hnx
          have HR := (show Hid _ from R)
          clear R hown
          go_wp2
          go_roundw
          case rel => exact ⟨k + 1, by omega, by go_num, HR.out.1, HR.out.2⟩
          case measure => simp [intOf]; omega
      · have R := store_step s (by rw [HS.out]; exact wrapd_past hl1) hown hnx
        have HR := (show Hid _ from R)
        clear R hown
        go_wp2
        go_roundw
        case rel => exact ⟨k + 1, by omega, by go_num, HR.out.1, HR.out.2⟩
        case measure => simp [intOf]; omega
    · obtain rfl : k = n := by omega
      have hown' : wr.ownsRow w.heap.size 9 1 (.slice (some ⟨w.heap.size, 0, none⟩) k k) k ((wsL k ss len1 Bw).map Value.string) := by
        rw [fillTo_full] at hown; simpa [wsL, Function.comp_def] using hown
      have Hco : Hid (∀ j, j < k → wr.cell? ⟨w.heap.size, 0 + j, none⟩ = some (.string ((wsL k ss len1 Bw).getD j ByteArray.empty))) := fun j hj => by
        rw [Nat.zero_add, hown'.cellAt j (by omega)]
        exact strAt _ j (by rw [wsL_len]; exact hj)
      have Hws : Hid (∀ s ∈ wsL k ss len1 Bw, s.size ≤ maxLen) := wsL_sizes Hsz.out
      have Hwl : Hid ((wsL k ss len1 Bw).length = k) := wsL_len _ _ _ _
      clear hown hown'
      generalize wsL k ss len1 Bw = W at *
      go_wp2_with fail
      refine (wb_len k w.heap.size 0 k W _ Hwl.out (by omega) Hco.out Hws.out).mono ?_
      rintro e w2 ⟨rfl, rfl⟩
      go_wp2_with fail
      go_loop [9, 11, 47] (fun m _ i => ∃ q : Nat, q ≤ k ∧ i = .int .i64 q ∧ m = .int .u64 (wbN (datas (W.take q)) : Nat)) (fun _ _ i => k - (intOf i).toNat)
      case atStart => exact ⟨0, Nat.zero_le _, rfl, rfl⟩
      case round =>
        obtain ⟨q, hq, rfl, rfl⟩ := hrel
        by_cases hlt2 : q < k
        · have hck := Hco.out q hlt2
          obtain ⟨s, hs⟩ : ∃ s, s = W.getD q ByteArray.empty := ⟨_, rfl⟩
          rw [← hs, Nat.zero_add] at hck
          have hss : s.size ≤ maxLen := Hws.out s (by rw [hs]; have := Hwl.out; simp [show q < W.length by omega])
          have HN : Hid (wbN (datas (W.take (q + 1))) = wstep (wbN (datas (W.take q))) s.data.toList) := by
            rw [datas_take W q (by have := Hwl.out; omega), ← hs]; exact wbN_snoc _ _
          have hlt' := wbN_lt (datas (W.take q))
          have hb := hashL_bd s.data.toList
          have ha := and63 _ hb.1 hb.2
          clear hs
          generalize wbN (datas (W.take q)) = N at *
          cases hp : phL s.data.toList
          · go_wp2_with (first
              | (go_at_call 6; refine (zplace_any _ _ hss).mono ?_; rintro e w' ⟨rfl, rfl⟩; rw [hp])
              | (go_at_call 7; refine (zfnv_any _ _ hss).mono ?_; rintro e w' ⟨rfl, rfl⟩))
            go_round
            case rel => exact ⟨q + 1, by omega, by go_num, by rw [HN.out, or_step N _ hlt' hp]⟩
            case measure => simp [intOf]; omega
          · go_wp2_with (first
              | (go_at_call 6; refine (zplace_any _ _ hss).mono ?_; rintro e w' ⟨rfl, rfl⟩; rw [hp])
              | (go_at_call 7; refine (zfnv_any _ _ hss).mono ?_; rintro e w' ⟨rfl, rfl⟩))
            go_round
            case rel => exact ⟨q + 1, by omega, by go_num, by rw [HN.out, ph_step N _ hp]⟩
            case measure => simp [intOf]; omega
        · have e : W.take q = W := List.take_of_length_le (by have := Hwl.out; omega)
          rw [e]
          go_wp2
          go_ret
          exact ⟨by simp, hnx⟩
end Go.Proofs.Ybulkdbgy

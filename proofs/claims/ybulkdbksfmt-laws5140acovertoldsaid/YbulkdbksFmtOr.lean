import Derived.Test.YbulkdbksFmtRows
import Derived.WalkKit
import Derived.ProofKit
import Derived.WalkSpells
import Derived.Deep.QuietTactic
import Derived.BigQuiet
import Derived.BigGuardPart
import Derived.Laws.CopyOwn
namespace Go.Proofs.YbulkdbksFmt
open Go.RowKit

def nums (ws : List Nat) : List Value := ws.map (fun x : Nat => Value.int .u64 (x : Int))

/-- A filter in memory: the struct's block p, the words' block q. -/
structure Filt (w : World) (p q n : Nat) (bits h : Int) (ws : List Nat) : Prop where
  st : w.heap[p]? = some (.cells #[.slice (some ⟨q, 0, none⟩) n n, .int .i64 bits, .int .i64 h] 27 (0, 0))
  row : w.ownsRow 0 29 1 (.slice (some ⟨q, 0, none⟩) n n) n (nums ws)

theorem nums_len (ws : List Nat) : (nums ws).length = ws.length := by simp [nums]
theorem Filt.len {w : World} {p q n : Nat} {bits h : Int} {ws : List Nat} (F : Filt w p q n bits h ws) : ws.length = n := by
  have := F.row.1; simpa [nums] using this
theorem Filt.c0 {w : World} {p q n : Nat} {bits h : Int} {ws : List Nat} (F : Filt w p q n bits h ws) : w.cell? ⟨p, 0, none⟩ = some (.slice (some ⟨q, 0, none⟩) n n) := by
  rw [cell_of_row w p 0 _ _ _ F.st]; rfl
theorem Filt.c1 {w : World} {p q n : Nat} {bits h : Int} {ws : List Nat} (F : Filt w p q n bits h ws) : w.cell? ⟨p, 1, none⟩ = some (.int .i64 bits) := by
  rw [cell_of_row w p 1 _ _ _ F.st]; rfl
theorem Filt.c2 {w : World} {p q n : Nat} {bits h : Int} {ws : List Nat} (F : Filt w p q n bits h ws) : w.cell? ⟨p, 2, none⟩ = some (.int .i64 h) := by
  rw [cell_of_row w p 2 _ _ _ F.st]; rfl
theorem Filt.at {w : World} {p q n : Nat} {bits h : Int} {ws : List Nat} (F : Filt w p q n bits h ws) (k : Nat) (hk : k < n) : w.cell? ⟨q, k, none⟩ = some (.int .u64 ((ws.getD k 0 : Nat) : Int)) := by
  rw [F.row.cellAt k (by omega)]
  simp [nums, F.len, hk]
theorem Filt.fz {w : World} {p q n : Nat} {bits h : Int} {ws : List Nat} (F : Filt w p q n bits h ws) (k : Nat) : w.frozen? ⟨q, k, none⟩ = false := F.row.frozenAt k
theorem Filt.plt {w : World} {p q n : Nat} {bits h : Int} {ws : List Nat} (F : Filt w p q n bits h ws) : p < w.heap.size := (Array.getElem?_eq_some_iff.1 F.st).1
theorem Filt.qlt {w : World} {p q n : Nat} {bits h : Int} {ws : List Nat} (F : Filt w p q n bits h ws) : q < w.heap.size := (F.row.lt _ rfl).2
theorem Filt.ne {w : World} {p q n : Nat} {bits h : Int} {ws : List Nat} (F : Filt w p q n bits h ws) : p ≠ q := by
  rintro rfl
  rcases F.row.2 with ⟨h', _⟩ | ⟨g', cap', cur, h', _, hg, _⟩
  · simp at h'
  · simp only [Value.slice.injEq, Option.some.injEq, Addr.mk.injEq, and_true, true_and] at h'
    obtain ⟨rfl, rfl⟩ := h'
    have := F.st
    rw [hg] at this
    simp at this

theorem Filt.kept {w w' : World} {p q n : Nat} {bits h : Int} {ws : List Nat} {row : Option Nat} (F : Filt w p q n bits h ws) (hg : w.grownBy w' row) (h1 : some p ≠ row) (h2 : some q ≠ row) : Filt w' p q n bits h ws :=
  ⟨(hg.block p F.plt h1).trans F.st, F.row.kept hg (Or.inr h2)⟩

theorem grown_trans {a b c : World} {row : Option Nat} (h : a.grownBy b row) (k : b.grownBy c row) : a.grownBy c row :=
  ⟨k.os.trans h.os, k.tape.trans h.tape, k.output.trans h.output, Nat.le_trans h.size k.size, fun i hi hne => (k.block i (Nat.lt_of_lt_of_le hi h.size) hne).trans (h.block i hi hne)⟩
theorem grown_drew {a b : World} {row : Option Nat} (h : a.grownBy b row) : a.grownBy b.drew row := ⟨h.os, h.tape, h.output, h.size, h.block⟩
theorem grown_any {a b : World} {row : Option Nat} (h : a.grownBy b none) : a.grownBy b row := ⟨h.os, h.tape, h.output, h.size, fun i hi _ => h.block i hi (by simp)⟩

theorem shape_any (p : Nat) (bits h : Int) (w : World) (h1 : w.cell? ⟨p, 1, none⟩ = some (.int .i64 bits)) (h2 : w.cell? ⟨p, 2, none⟩ = some (.int .i64 h)) :
    Calls Ybaf.prog 12 #[.pointer (some ⟨p, 0, none⟩)] w fun e w' => e = .returned (.agg #[.int .i64 bits, .int .i64 h]) ∧ w.grownBy w' none := by
  have hp : p < w.heap.size := World.block_lt_of_cell? w _ h1
  go_enter Ybaf.func12, Ybaf.ntmps12
  go_wp2
  go_region
  go_wp2
  exact bodyPost_ret (v := .agg #[.int .i64 bits, .int .i64 h]) (by simp [results, Ybaf.results12, go_sem]) rfl ⟨rfl, grown_drew (World.grownBy_alloc _ _ _)⟩

theorem same_any (p p' : Nat) (bits h : Int) (w : World) (h1 : w.cell? ⟨p, 1, none⟩ = some (.int .i64 bits)) (h2 : w.cell? ⟨p, 2, none⟩ = some (.int .i64 h))
    (h3 : w.cell? ⟨p', 1, none⟩ = some (.int .i64 bits)) (h4 : w.cell? ⟨p', 2, none⟩ = some (.int .i64 h)) :
    Calls Ybaf.prog 10 #[.pointer (some ⟨p, 0, none⟩), .pointer (some ⟨p', 0, none⟩)] w fun e w' => e = .returned (.bool true) ∧ w.grownBy w' none := by
  go_enter Ybaf.func10, Ybaf.ntmps10
  go_wp2_with fail
  refine (shape_any p bits h _ h1 h2).mono ?_
  rintro e w1 ⟨rfl, hg1⟩
  go_wp2_with fail
  refine (shape_any p' bits h _ (hg1.cell h3 (by simp)) (hg1.cell h4 (by simp))).mono ?_
  rintro e w2 ⟨rfl, hg2⟩
  go_wp2
  go_ret
  exact ⟨rfl, grown_trans hg1 hg2⟩

theorem must_any (p p' : Nat) (bits h : Int) (w : World) (h1 : w.cell? ⟨p, 1, none⟩ = some (.int .i64 bits)) (h2 : w.cell? ⟨p, 2, none⟩ = some (.int .i64 h))
    (h3 : w.cell? ⟨p', 1, none⟩ = some (.int .i64 bits)) (h4 : w.cell? ⟨p', 2, none⟩ = some (.int .i64 h)) :
    Calls Ybaf.prog 9 #[.pointer (some ⟨p, 0, none⟩), .pointer (some ⟨p', 0, none⟩)] w fun e w' => e = .returned (.tuple #[]) ∧ w.grownBy w' none := by
  go_enter Ybaf.func9, Ybaf.ntmps9
  go_wp2_with fail
  refine (same_any p p' bits h _ h1 h2 h3 h4).mono ?_
  rintro e w1 ⟨rfl, hg1⟩
  go_wp2
  go_end0
  exact ⟨rfl, hg1⟩

def orL (ws vs : List Nat) : List Nat := List.zipWith (· ||| ·) ws vs
/-- Or, behind k rounds. -/
def mix (ws vs : List Nat) (k : Nat) : List Nat := (orL ws vs).take k ++ ws.drop k

theorem mix_zero (ws vs : List Nat) : mix ws vs 0 = ws := by simp [mix]
theorem mix_full {ws vs : List Nat} {n : Nat} (h1 : ws.length = n) (h2 : vs.length = n) : mix ws vs n = orL ws vs := by
  unfold mix
  rw [List.drop_eq_nil_of_le (by omega), List.append_nil, List.take_of_length_le (by simp [orL]; omega)]
theorem mix_at {ws vs : List Nat} {n k : Nat} (h1 : ws.length = n) (h2 : vs.length = n) (hk : k < n) : (mix ws vs k).getD k 0 = ws.getD k 0 := by
  unfold mix
  have : ((orL ws vs).take k).length = k := by simp [orL]; omega
  simp [List.getD, List.getElem?_append_right, this]
theorem mix_set {ws vs : List Nat} {n k : Nat} (h1 : ws.length = n) (h2 : vs.length = n) (hk : k < n) : (mix ws vs k).set k (ws.getD k 0 ||| vs.getD k 0) = mix ws vs (k + 1) := by
  have e1 : ((orL ws vs).take k).length = k := by simp [orL]; omega
  unfold mix
  rw [List.set_append_right _ _ (by omega), e1, Nat.sub_self, List.drop_eq_getElem_cons (by omega : k < ws.length), List.set_cons_zero, List.take_succ_eq_append_getElem (by simp [orL]; omega)]
  simp [orL, h1, h2, hk]
theorem mix_len {ws vs : List Nat} {n k : Nat} (h1 : ws.length = n) (h2 : vs.length = n) (hk : k ≤ n) : (mix ws vs k).length = n := by
  simp [mix, orL]; omega

def Small (ws : List Nat) : Prop := ∀ x ∈ ws, x < 18446744073709551616
theorem Small.getD {ws : List Nat} (h : Small ws) (k : Nat) : ws.getD k 0 < 18446744073709551616 := by
  by_cases hk : k < ws.length
  · simp [List.getD, hk]; exact h _ (List.getElem_mem hk)
  · simp [List.getD, List.getElem?_eq_none (Nat.le_of_not_lt hk)]

theorem set_nums (ws : List Nat) (k x : Nat) : (nums ws).set k (.int .u64 (x : Int)) = nums (ws.set k x) := by
  simp [nums, List.map_set]

theorem Filt.store {w : World} {p q n : Nat} {bits h : Int} {ws : List Nat} (F : Filt w p q n bits h ws) (k x : Nat) :
    Filt (w.setCell ⟨q, k, none⟩ (.int .u64 (x : Int))) p q n bits h (ws.set k x) ∧ w.grownBy (w.setCell ⟨q, k, none⟩ (.int .u64 (x : Int))) (some q) := by
  obtain ⟨r1, r2⟩ := F.row.stored k (.int .u64 (x : Int))
  refine ⟨⟨?_, by rw [← set_nums]; exact r1⟩, r2⟩
  rw [Below.heap_setCell _ _ _ _ F.ne]; exact F.st

set_option maxHeartbeats 1000000 in
theorem or_any (p q p' q' n : Nat) (bits h : Int) (ws vs : List Nat) (w : World) (F : Filt w p q n bits h ws) (G : Filt w p' q' n bits h vs) (hs : Small ws) (hv : Small vs) (hn : n ≤ 512) (hq : q' = q → vs = ws) :
    Calls Ybaf.prog 6 #[.pointer (some ⟨p, 0, none⟩), .pointer (some ⟨p', 0, none⟩)] w fun e w' => e = .returned (.tuple #[]) ∧ Filt w' p q n bits h (orL ws vs) ∧ w.grownBy w' (some q) := by
  have hl1 := (show Hid _ from F.len)
  have hl2 := (show Hid _ from G.len)
  go_enter Ybaf.func6, Ybaf.ntmps6
  go_wp2_with fail
  refine (must_any p p' bits h _ F.c1 F.c2 G.c1 G.c2).mono ?_
  rintro e w1 ⟨rfl, hg1⟩
  have F1 := F.kept hg1 (by simp) (by simp)
  have G1 := G.kept hg1 (by simp) (by simp)
  have gc0 := G1.c0
  go_wp2
  go_loopw [4, 5, 14] (fun _ _ i wr => ∃ k : Nat, k ≤ n ∧ i = .int .i64 k ∧ Filt wr p q n bits h (mix ws vs k) ∧ w1.grownBy wr (some q)) (fun _ _ i _ => n - (intOf i).toNat)
  case atStart => exact ⟨0, Nat.zero_le _, rfl, by rw [mix_zero]; exact F1, World.grownBy.refl _ _⟩
  case round =>
    obtain ⟨k, hk, rfl, Fr, hgr⟩ := hrel
    by_cases hlt : k < n
    · have hrd : wr.cell? ⟨q', k, none⟩ = some (.int .u64 ((vs.getD k 0 : Nat) : Int)) := by
        by_cases e : q' = q
        · rw [e, Fr.at k hlt, mix_at hl1.out hl2.out hlt, hq e]
        · exact hgr.cell (G1.at k hlt) (by simpa using e)
      have hrf : wr.cell? ⟨q, k, none⟩ = some (.int .u64 ((ws.getD k 0 : Nat) : Int)) := by
        rw [Fr.at k hlt, mix_at hl1.out hl2.out hlt]
      have hfz := Fr.fz k
      have hc0 := Fr.c0
      have HR : Hid _ := Fr.store k (ws.getD k 0 ||| vs.getD k 0)
      have HM : Hid _ := mix_set hl1.out hl2.out hlt
      have hor := u64_or_nat (ws.getD k 0) (vs.getD k 0) (hs.getD k) (hv.getD k)
      generalize ws.getD k 0 = x at *
      generalize vs.getD k 0 = y at *
      generalize x ||| y = z at *
      have hltI : (k : Int) < (n : Int) := by omega
      clear F G F1 G1 hs hv hq
      go_wp2
      go_roundw
      case rel => exact ⟨k + 1, by omega, by go_num, by rw [← HM.out]; exact HR.out.1, grown_trans hgr HR.out.2⟩
      case measure => simp [intOf]; omega
    · obtain rfl : k = n := by omega
      go_wp2
      go_end0
      exact ⟨rfl, by rw [← mix_full hl1.out hl2.out]; exact Fr, grown_trans (grown_any hg1) hgr⟩

def andOK (ws vs : List Nat) (n : Nat) : Prop := ∀ k, k < n → ws.getD k 0 &&& vs.getD k 0 = vs.getD k 0

set_option maxHeartbeats 1000000 in
theorem covers_any (p q p' q' n : Nat) (bits h : Int) (ws vs : List Nat) (w : World) (F : Filt w p q n bits h ws) (G : Filt w p' q' n bits h vs) (hs : Small ws) (hv : Small vs) (hn : n ≤ 512) (ha : andOK ws vs n) :
    Calls Ybaf.prog 7 #[.pointer (some ⟨p, 0, none⟩), .pointer (some ⟨p', 0, none⟩)] w fun e w' => e = .returned (.bool true) ∧ w.grownBy w' none := by
  go_enter Ybaf.func7, Ybaf.ntmps7
  go_wp2_with fail
  refine (must_any p p' bits h _ F.c1 F.c2 G.c1 G.c2).mono ?_
  rintro e w1 ⟨rfl, hg1⟩
  have F1 := F.kept hg1 (by simp) (by simp)
  have G1 := G.kept hg1 (by simp) (by simp)
  have gc0 := G1.c0
  have fc0 := F1.c0
  go_wp2
  go_loop [5, 6, 15] (fun _ _ i => ∃ k : Nat, k ≤ n ∧ i = .int .i64 k) (fun _ _ i => n - (intOf i).toNat)
  case atStart => exact ⟨0, Nat.zero_le _, rfl⟩
  case round =>
    obtain ⟨k, hk, rfl⟩ := hrel
    by_cases hlt : k < n
    · have hrd := G1.at k hlt
      have hrf := F1.at k hlt
      have hand := u64_and_nat (ws.getD k 0) (vs.getD k 0) (hs.getD k) (hv.getD k)
      rw [ha k hlt] at hand
      generalize ws.getD k 0 = x at *
      generalize vs.getD k 0 = y at *
      have hltI : (k : Int) < (n : Int) := by omega
      clear F G F1 G1 hs hv ha
      go_wp2
      go_round
      case rel => exact ⟨k + 1, by omega, by go_num⟩
      case measure => simp [intOf]; omega
    · go_wp2
      go_ret
      exact ⟨rfl, hg1⟩
end Go.Proofs.YbulkdbksFmt

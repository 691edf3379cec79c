import Derived.Test.YbulkdbksRows
import Derived.WalkKit
import Derived.ProofKit
import Derived.WalkSpells
import Derived.Deep.QuietTactic
import Derived.BigQuiet
import Derived.BigGuardPart
import Derived.Laws.CopyOwn
import Derived.Lib.EndianBits
import Derived.Lib.AppendStr
import Derived.Lib.SliceRun
import Derived.Stop.IfaceNil
import Derived.Stop.LaidErr
import Derived.Laws.IdiomStrings
namespace Go.Proofs.Ybulkdbks
open Go.RowKit

/-- Bytes as cells. -/
def bc (l : List UInt8) : List Value := l.map (fun c => Value.int .u8 (c.toNat : Int))
theorem bc_len (l : List UInt8) : (bc l).length = l.length := by simp [bc]

theorem grown_trans {a b c : World} {row : Option Nat} (h : a.grownBy b row) (k : b.grownBy c row) : a.grownBy c row :=
  ⟨k.os.trans h.os, k.tape.trans h.tape, k.output.trans h.output, Nat.le_trans h.size k.size, fun i hi hne => (k.block i (Nat.lt_of_lt_of_le hi h.size) hne).trans (h.block i hi hne)⟩
theorem grown_drew {a b : World} {row : Option Nat} (h : a.grownBy b row) : a.grownBy b.drew row := ⟨h.os, h.tape, h.output, h.size, h.block⟩
theorem grown_any {a b : World} {row : Option Nat} (h : a.grownBy b none) : a.grownBy b row := ⟨h.os, h.tape, h.output, h.size, fun i hi _ => h.block i hi (by simp)⟩

theorem beU32 (g o n c : Nat) (b0 b1 b2 b3 : UInt8) (w : World) (hn : 4 ≤ n)
    (c0 : w.cell? ⟨g, o, none⟩ = some (.int .u8 b0.toNat)) (c1 : w.cell? ⟨g, o + 1, none⟩ = some (.int .u8 b1.toNat)) (c2 : w.cell? ⟨g, o + 2, none⟩ = some (.int .u8 b2.toNat)) (c3 : w.cell? ⟨g, o + 3, none⟩ = some (.int .u8 b3.toNat)) :
    Calls Yba.prog 41 #[.agg #[], .slice (some ⟨g, o, none⟩) n c] w fun e w' => e = .returned (.int .u32 ((b3.toNat : Int) + (b2.toNat : Int) * 256 + (b1.toNat : Int) * 65536 + (b0.toNat : Int) * 16777216)) ∧ w.grownBy w' none := by
  have d0 := cell?_alloc_old (.cells #[] 41) c0
  have e0 : (w.alloc (.cells #[] 41)).drew.cell? ⟨g, o, none⟩ = some (.int .u8 b0.toNat) := d0
  have h0 : b0.toNat < 256 := b0.toNat_lt
  have d1 := cell?_alloc_old (.cells #[] 41) c1
  have e1 : (w.alloc (.cells #[] 41)).drew.cell? ⟨g, o + 1, none⟩ = some (.int .u8 b1.toNat) := d1
  have h1 : b1.toNat < 256 := b1.toNat_lt
  have d2 := cell?_alloc_old (.cells #[] 41) c2
  have e2 : (w.alloc (.cells #[] 41)).drew.cell? ⟨g, o + 2, none⟩ = some (.int .u8 b2.toNat) := d2
  have h2 : b2.toNat < 256 := b2.toNat_lt
  have d3 := cell?_alloc_old (.cells #[] 41) c3
  have e3 : (w.alloc (.cells #[] 41)).drew.cell? ⟨g, o + 3, none⟩ = some (.int .u8 b3.toNat) := d3
  have h3 : b3.toNat < 256 := b3.toNat_lt
  go_enter Yba.func41, Yba.ntmps41
  go_wp2
  go_region
  go_wp2
  go_ret
  refine ⟨?_, grown_drew (World.grownBy_alloc _ _ _)⟩
  simp (disch := omega) only [u32_or8, u32_or16, u32_or24]
  rfl

theorem heap_set {w : World} {D k : Nat} {cs : Array Value} {t : TypeId} {fr : Nat × Nat} (h : w.heap[D]? = some (.cells cs t fr)) (u : Value) : (w.setCell ⟨D, k, none⟩ u).heap[D]? = some (.cells (cs.setIfInBounds k u) t fr) := by
  simp [World.setCell, Array.getElem?_modify, h]
theorem heap_alloc_old {w : World} {k : Nat} {o x : Obj} (h : w.heap[k]? = some x) : (w.alloc o).heap[k]? = some x := by
  have hlt : k < w.heap.size := (Array.getElem?_eq_some_iff.1 h).1
  show (w.heap.push o)[k]? = _
  rw [Array.getElem?_push, if_neg (by omega)]; exact h
theorem grown_set (w : World) (D k : Nat) (u : Value) : w.grownBy (w.setCell ⟨D, k, none⟩ u) (some D) :=
  ⟨rfl, rfl, rfl, by simp [World.setCell], fun i _ hne => Below.heap_setCell _ _ _ _ (by simpa using hne)⟩

theorem check_true (D : Value) (s : ByteArray) (w : World) : Calls Yba.prog 26 #[D, .bool true, .string s] w fun e w' => e = .returned (.tuple #[]) ∧ w' = w := by
  go_enter Yba.func26, Yba.ntmps26
  go_wp2
  go_end0
  exact ⟨rfl, rfl⟩

theorem check_false (D : Nat) (v : Value) (s : ByteArray) (w : World) (hD : w.heap[D]? = some (.cells #[v, .nilIface] 27 (0, 0))) :
    Calls Yba.prog 26 #[.pointer (some ⟨D, 0, none⟩), .bool false, .string s] w fun e w' => e = .returned (.tuple #[]) ∧ ∃ x, w'.heap[D]? = some (.cells #[v, .iface 107 x] 27 (0, 0)) ∧ w.grownBy w' (some D) := by
  have c1 : w.cell? ⟨D, 1, none⟩ = some .nilIface := by rw [cell_of_row w D 1 _ _ _ hD]; rfl
  have f1 : w.frozen? ⟨D, 1, none⟩ = false := frozen_of_row w D 1 _ _ hD
  have hlt : D < w.heap.size := (Array.getElem?_eq_some_iff.1 hD).1
  have HH : Hid (∀ u o, ((w.setCell ⟨D, 1, none⟩ u).alloc o).heap[D]? = some (.cells #[v, u] 27 (0, 0))) := fun u o => heap_alloc_old (heap_set hD u)
  clear hD
  go_enter Yba.func26, Yba.ntmps26
  go_wp2
  go_end0
  exact ⟨rfl, _, HH.out _ _, grown_trans (grown_set _ _ _ _) (World.grownBy_alloc _ _ _)⟩

theorem take_ok (D g o len cap n : Nat) (w : World) (hD : w.heap[D]? = some (.cells #[.slice (some ⟨g, o, none⟩) len cap, .nilIface] 27 (0, 0))) (hn : n ≤ len) (hlc : len ≤ cap) (hcap : cap ≤ 9223372036854775807) :
    Calls Yba.prog 48 #[.pointer (some ⟨D, 0, none⟩), .int .u64 n] w fun e w' => e = .returned (.slice (some ⟨g, o, none⟩) n cap) ∧ ∃ o', w'.heap[D]? = some (.cells #[.slice (some ⟨g, o', none⟩) (len - n) (cap - n), .nilIface] 27 (0, 0)) ∧ (n < len → o' = o + n) ∧ w.grownBy w' (some D) := by
  have c0 : w.cell? ⟨D, 0, none⟩ = some (.slice (some ⟨g, o, none⟩) len cap) := by rw [cell_of_row w D 0 _ _ _ hD]; rfl
  have c1 : w.cell? ⟨D, 1, none⟩ = some .nilIface := by rw [cell_of_row w D 1 _ _ _ hD]; rfl
  have f0 : w.frozen? ⟨D, 0, none⟩ = false := frozen_of_row w D 0 _ _ hD
  have hlt : D < w.heap.size := (Array.getElem?_eq_some_iff.1 hD).1
  have hle : (n : Int) ≤ (len : Int) := by omega
  have HH : Hid (∀ u, (w.setCell ⟨D, 0, none⟩ u).heap[D]? = some (.cells #[u, .nilIface] 27 (0, 0))) := fun u => heap_set hD u
  clear hD
  go_enter Yba.func48, Yba.ntmps48
  go_wp2_with (go_at_call 26; refine (check_true _ _ _).mono ?_; rintro e w' ⟨rfl, rfl⟩)
  all_goals go_ret
  · exact ⟨rfl, o, HH.out _, fun h => by omega, grown_set _ _ _ _⟩
  · exact ⟨rfl, o + n, HH.out _, fun _ => rfl, grown_set _ _ _ _⟩

/-- The decoder at block D has the bytes l left, which lie in block g, and no error. -/
def Dec (w : World) (D g : Nat) (l : List UInt8) : Prop :=
  ∃ o cap, w.heap[D]? = some (.cells #[.slice (some ⟨g, o, none⟩) l.length cap, .nilIface] 27 (0, 0)) ∧ l.length ≤ cap ∧ cap ≤ 9223372036854775807 ∧ ∀ j, j < l.length → w.cell? ⟨g, o + j, none⟩ = some (.int .u8 ((l.getD j 0).toNat : Int))

theorem Dec.kept {w w' : World} {D g : Nat} {l : List UInt8} {row : Option Nat} (h : Dec w D g l) (hg : w.grownBy w' row) (h1 : some D ≠ row) (h2 : some g ≠ row) : Dec w' D g l := by
  obtain ⟨o, cap, hD, h3, h4, h5⟩ := h
  exact ⟨o, cap, (hg.block D (Array.getElem?_eq_some_iff.1 hD).1 h1).trans hD, h3, h4, fun j hj => hg.cell (h5 j hj) h2⟩
theorem Dec.lt {w : World} {D g : Nat} {l : List UInt8} (h : Dec w D g l) : D < w.heap.size := by
  obtain ⟨o, cap, hD, _⟩ := h
  exact (Array.getElem?_eq_some_iff.1 hD).1

theorem take_dec (D g : Nat) (l1 l2 : List UInt8) (n : Int) (w : World) (h : Dec w D g (l1 ++ l2)) (hne : g ≠ D) (hn : n = l1.length) :
    Calls Yba.prog 48 #[.pointer (some ⟨D, 0, none⟩), .int .u64 n] w fun e w' => ∃ o cap, e = .returned (.slice (some ⟨g, o, none⟩) l1.length cap) ∧ (∀ j, j < l1.length → w'.cell? ⟨g, o + j, none⟩ = some (.int .u8 ((l1.getD j 0).toNat : Int))) ∧ Dec w' D g l2 ∧ w.grownBy w' (some D) := by
  obtain ⟨o, cap, hD, h3, h4, h5⟩ := h
  subst hn
  have hl : (l1 ++ l2).length = l1.length + l2.length := List.length_append
  refine (take_ok D g o (l1 ++ l2).length cap l1.length w hD (by omega) h3 h4).mono ?_
  rintro e w' ⟨rfl, o', hD', ho', hg⟩
  have hgr : some g ≠ some D := by simpa using hne
  refine ⟨o, cap, rfl, fun j hj => ?_, ⟨o', cap - l1.length, ?_, by omega, by omega, fun j hj => ?_⟩, hg⟩
  · have := hg.cell (h5 j (by omega)) hgr
    rw [this]; simp [List.getD, List.getElem?_append_left hj]
  · rw [hD', show (l1 ++ l2).length - l1.length = l2.length by omega]
  · have hh := hg.cell (h5 (l1.length + j) (by omega)) hgr
    rw [ho' (by omega), Nat.add_assoc, hh]
    simp [List.getD, List.getElem?_append_right]

def val4 (b0 b1 b2 b3 : UInt8) : Int := (b3.toNat : Int) + (b2.toNat : Int) * 256 + (b1.toNat : Int) * 65536 + (b0.toNat : Int) * 16777216

theorem u32_dec (D g : Nat) (b0 b1 b2 b3 : UInt8) (l : List UInt8) (w : World) (h : Dec w D g ([b0, b1, b2, b3] ++ l)) (hne : g ≠ D) :
    Calls Yba.prog 47 #[.pointer (some ⟨D, 0, none⟩)] w fun e w' => e = .returned (.int .u32 (val4 b0 b1 b2 b3)) ∧ Dec w' D g l ∧ w.grownBy w' (some D) := by
  have q22 : ∀ (w : World) (a : Option Addr) (n c n' c' : Nat), (binOp .eql 22 (.slice a n c) (.slice none n' c')).run Yba.prog w = .ok (.bool a.isNone) w := fun w a n c n' c' => Lib.run_eql_slice_nil w _ _ a n c n' c' Yba.underlying22
  go_enter Yba.func47, Yba.ntmps47
  go_wp2_with fail
  refine (take_dec D g [b0, b1, b2, b3] l 4 w h hne rfl).mono ?_
  rintro e w1 ⟨o, cap, rfl, hc, hd, hg⟩
  have e0 := hc 0 (by simp)
  have e1 := hc 1 (by simp)
  have e2 := hc 2 (by simp)
  have e3 := hc 3 (by simp)
  clear hc
  go_wp2_with fail
  refine (beU32 g o 4 cap b0 b1 b2 b3 _ (by omega) e0 e1 e2 e3).mono ?_
  rintro e w2 ⟨rfl, hg2⟩
  go_wp2
  go_ret
  exact ⟨rfl, hd.kept hg2 (by simp) (by simp), grown_trans hg (grown_any hg2)⟩

theorem conv_bytes {w : World} (g o cap : Nat) (l : List UInt8) (hc : ∀ j, j < l.length → w.cell? ⟨g, o + j, none⟩ = some (.int .u8 ((l.getD j 0).toNat : Int))) :
    (convert 22 9 (.slice (some ⟨g, o, none⟩) l.length cap)).run Yba.prog w = .ok (.string ⟨l.toArray⟩) w := by
  rw [run_convert_bytes_string w 22 9 5 _ _ _ Yba.underlying22 Yba.underlying5 Yba.underlying9]
  have hl : (loadCells ⟨g, o, none⟩ l.length).run Yba.prog w = .ok (((l.map (fun b => (b.toNat : Int))).map (Value.int .u8)).toArray) w := by
    have := run_loadCells_list (P := Yba.prog) (w := w) ⟨g, o, none⟩ ((l.map (fun b => (b.toNat : Int))).map (Value.int .u8)) (by
      intro j v hj
      have hlt : j < l.length := by
        have := (List.getElem?_eq_some_iff.1 hj).1
        simpa using this
      rw [Addr.add_lit, hc j hlt, ← hj]
      simp [hlt])
    simpa using this
  rw [run_bytesToString w _ _ _ _ hl, foldl_push_byteCells]
  simp

theorem str_dec (D g : Nat) (b0 b1 b2 b3 : UInt8) (k l : List UInt8) (w : World) (h : Dec w D g ([b0, b1, b2, b3] ++ (k ++ l))) (hne : g ≠ D) (hv : val4 b0 b1 b2 b3 = (k.length : Int)) (hk : k.length < 4294967296) :
    Calls Yba.prog 40 #[.pointer (some ⟨D, 0, none⟩)] w fun e w' => e = .returned (.string ⟨k.toArray⟩) ∧ Dec w' D g l ∧ w.grownBy w' (some D) := by
  go_enter Yba.func40, Yba.ntmps40
  go_wp2_with fail
  refine (u32_dec D g b0 b1 b2 b3 (k ++ l) w h hne).mono ?_
  rintro e w1 ⟨rfl, hd1, hg1⟩
  rw [hv]
  go_wp2_with fail
  refine (take_dec D g k l _ _ hd1 hne rfl).mono ?_
  rintro e w2 ⟨o, cap, rfl, hc, hd2, hg2⟩
  have hcv := conv_bytes g o cap k hc
  clear hc
  go_wp2
  go_ret
  exact ⟨rfl, hd2, grown_trans hg1 hg2⟩

theorem Dec.len_fact {w : World} {D g : Nat} {l : List UInt8} (h : Dec w D g l) : ∃ o cap, w.cell? ⟨D, 0, none⟩ = some (.slice (some ⟨g, o, none⟩) l.length cap) ∧ w.cell? ⟨D, 1, none⟩ = some .nilIface ∧ l.length ≤ 9223372036854775807 := by
  obtain ⟨o, cap, hD, h3, h4, h5⟩ := h
  exact ⟨o, cap, by rw [cell_of_row w D 0 _ _ _ hD]; rfl, by rw [cell_of_row w D 1 _ _ _ hD]; rfl, by omega⟩

theorem count_dec (D g : Nat) (b0 b1 b2 b3 : UInt8) (n : Nat) (l : List UInt8) (w : World) (h : Dec w D g ([b0, b1, b2, b3] ++ l)) (hne : g ≠ D) (hv : val4 b0 b1 b2 b3 = (n : Int)) (hn : n ≤ 1024) (hl : n * 4 ≤ l.length) :
    Calls Yba.prog 39 #[.pointer (some ⟨D, 0, none⟩), .int .u64 4] w fun e w' => e = .returned (.int .i64 n) ∧ Dec w' D g l ∧ w.grownBy w' (some D) := by
  go_enter Yba.func39, Yba.ntmps39
  go_wp2_with fail
  refine (u32_dec D g b0 b1 b2 b3 l w h hne).mono ?_
  rintro e w1 ⟨rfl, hd1, hg1⟩
  rw [hv]
  obtain ⟨o, cap, c0, c1, hbl⟩ := hd1.len_fact
  have hle : (n : Int) * 4 ≤ (l.length : Int) := by omega
  generalize hL : l.length = L at *
  have HL : Hid (l.length = L) := hL
  clear hL
  go_wp2_with (go_at_call 26; refine (check_true _ _ _).mono ?_; rintro e w' ⟨rfl, rfl⟩)
  go_ret
  exact ⟨rfl, hd1, hg1⟩

/-- A number as four bytes, the greatest first. -/
def b4 (n : Nat) : List UInt8 := [UInt8.ofNat (n / 16777216), UInt8.ofNat (n / 65536), UInt8.ofNat (n / 256), UInt8.ofNat n]
theorem val4_b4 (n : Nat) (h : n < 4294967296) : val4 (UInt8.ofNat (n / 16777216)) (UInt8.ofNat (n / 65536)) (UInt8.ofNat (n / 256)) (UInt8.ofNat n) = (n : Int) := by
  simp only [val4, UInt8.toNat_ofNat']
  omega
def encK (k : ByteArray) : List UInt8 := b4 k.size ++ k.data.toList
def encs (ks : List ByteArray) : List UInt8 := ks.flatMap encK
theorem encs_cons (k : ByteArray) (r : List ByteArray) : encs (k :: r) = b4 k.size ++ (k.data.toList ++ encs r) := by simp [encs, encK]
theorem encs_drop (ks : List ByteArray) (i : Nat) (h : i < ks.length) : encs (ks.drop i) = b4 (ks.getD i ByteArray.empty).size ++ ((ks.getD i ByteArray.empty).data.toList ++ encs (ks.drop (i + 1))) := by
  rw [List.drop_eq_getElem_cons h, encs_cons]; simp [h]
theorem encs_len (ks : List ByteArray) : ks.length * 4 ≤ (encs ks).length := by
  induction ks with
  | nil => simp
  | cons k r ih => rw [encs_cons]; simp [b4] ; omega

theorem info9 : (Yba.prog.info? 9).map (fun i => (i.zero, i.size, i.bytes)) = some (some (.string ByteArray.empty), 1, 16) := by kernel_rfl

def fillS (n k : Nat) (ks : List ByteArray) : List Value := (List.range n).map (fun i => if i < k then .string (ks.getD i ByteArray.empty) else .string ByteArray.empty)
theorem fillS_len (n k : Nat) (ks : List ByteArray) : (fillS n k ks).length = n := by simp [fillS]
theorem fillS_zero (n : Nat) (ks : List ByteArray) : fillS n 0 ks = List.replicate n (.string ByteArray.empty) := by
  apply List.ext_getElem
  · simp [fillS]
  · intro i h1 h2; simp [fillS]
theorem fillS_set (n k : Nat) (ks : List ByteArray) : (fillS n k ks).set k (.string (ks.getD k ByteArray.empty)) = fillS n (k + 1) ks := by
  unfold fillS
  apply List.ext_getElem
  · simp
  · intro i h1 h2
    simp only [List.getElem_set, List.getElem_map, List.getElem_range]
    by_cases e : k = i
    · subst e; simp
    · simp only [e, if_false]
      by_cases hi : i < k
      · rw [if_pos hi, if_pos (by omega)]
      · rw [if_neg hi, if_neg (by omega)]

theorem owns_zero {w : World} {base : Nat} {e : TypeId} {size : Nat} {v : Value} {n : Nat} {xs : List Value} (h : w.ownsRow base e size v n xs) : w.ownsRow 0 e size v n xs := by
  refine ⟨h.1, ?_⟩
  rcases h.2 with h2 | ⟨g, cap, cur, hv, _, r⟩
  · exact Or.inl h2
  · exact Or.inr ⟨g, cap, cur, hv, Nat.zero_le _, r⟩
theorem grown_fresh2 {a b c : World} {D q : Nat} (h : a.grownBy b (some D)) (k : b.grownBy c (some q)) (hq : a.heap.size ≤ q) : a.grownBy c (some D) :=
  ⟨k.os.trans h.os, k.tape.trans h.tape, k.output.trans h.output, Nat.le_trans h.size k.size, fun i hi hne => (k.block i (Nat.lt_of_lt_of_le hi h.size) (by simp; omega)).trans (h.block i hi hne)⟩

theorem strs_zero (D g : Nat) (l : List UInt8) (w : World) (h : Dec w D g (b4 0 ++ l)) (hne : g ≠ D) :
    Calls Yba.prog 25 #[.pointer (some ⟨D, 0, none⟩)] w fun e w' => e = .returned (.slice none 0 0) ∧ Dec w' D g l ∧ w.grownBy w' (some D) := by
  go_enter Yba.func25, Yba.ntmps25
  go_wp2_with fail
  refine (count_dec D g _ _ _ _ 0 l w h hne (val4_b4 0 (by decide)) (by omega) (by omega)).mono ?_
  rintro e w1 ⟨rfl, hd1, hg1⟩
  go_wp2
  go_ret
  exact ⟨rfl, hd1, hg1⟩

set_option maxHeartbeats 1000000 in
theorem strs_some (D g N : Nat) (ks : List ByteArray) (tail : List UInt8) (w : World) (hN : ks.length = N) (h : Dec w D g (b4 N ++ (encs ks ++ tail))) (hne : g ≠ D) (hg0 : g < w.heap.size) (hn0 : 0 < N) (hn : N ≤ 1024) (hks : ∀ k ∈ ks, k.size < 4294967296) :
    Calls Yba.prog 25 #[.pointer (some ⟨D, 0, none⟩)] w fun e w' => ∃ q, e = .returned (.slice (some ⟨q, 0, none⟩) N N) ∧ w.heap.size ≤ q ∧ w'.ownsRow 0 9 1 (.slice (some ⟨q, 0, none⟩) N N) N (fillS N N ks) ∧ Dec w' D g tail ∧ w.grownBy w' (some D) := by
  obtain ⟨i0, hi, hz0, hz1, hz2⟩ := info_parts info9
  have hel := encs_len ks
  have hDw := h.lt
  have HN : Hid _ := hN
  have Hks : Hid _ := hks
  go_enter Yba.func25, Yba.ntmps25
  go_wp2_with fail
  refine (count_dec D g _ _ _ _ N (encs ks ++ tail) w h hne (val4_b4 _ (by omega)) hn (by simp; omega)).mono ?_
  rintro e w1 ⟨rfl, hd1, hg1⟩
  clear hel h hks hN
  have hnz : ((N : Int) == 0) = false := by simp; omega
  go_wp2_with (at_make; refine wpList_make_full _ rfl _ _ 32 rfl w1.heap.size 9 i0 (.string ByteArray.empty) 1 Yba.underlying32 hi hz0 hz1 _ _ _ _ N rfl rfl (by omega) (by omega) ?b2 ?b3 (Nat.le_refl _) ?_)
  case b2 => rw [hz2]; omega
  case b3 => unfold maxLen; omega
  intro w2 hown2 hg2
  have hs1 := hg1.size
  have hrow2 : w2.ownsRow 0 9 1 (.slice (some ⟨w1.heap.size, 0, none⟩) N N) N (fillS N 0 ks) := by
    rw [fillS_zero, ← toList_madeCells_one]
    have := owns_zero hown2
    simpa [Value.cells] using this
  have hd2 := hd1.kept hg2 (by simp) (by simp)
  have hgr2 := grown_trans hg1 (grown_any (row := some D) hg2)
  clear hown2 hd1 hg1 hg2
  go_wp2
  go_loopw [5, 14] (fun _ i wr => ∃ k : Nat, k ≤ N ∧ i = .int .i64 k ∧ wr.ownsRow 0 9 1 (.slice (some ⟨w1.heap.size, 0, none⟩) N N) N (fillS N k ks) ∧ Dec wr D g (encs (ks.drop k) ++ tail) ∧ w.grownBy wr (some D)) (fun _ i _ => N - (intOf i).toNat)
  case atStart => exact ⟨0, Nat.zero_le _, rfl, hrow2, hd2, hgr2⟩
  case round =>
    obtain ⟨k, hk, rfl, hrow, hd, hgr⟩ := hrel
    clear hrow2 hd2 hgr2
    by_cases hlt : k < N
    · have hkk : k < ks.length := by rw [HN.out]; exact hlt
      rw [encs_drop ks k hkk] at hd
      have HF : Hid _ := fillS_set N k ks
      obtain ⟨s, hs⟩ : ∃ s, s = ks.getD k ByteArray.empty := ⟨_, rfl⟩
      rw [← hs] at hd HF
      have hss : s.size < 4294967296 := by rw [hs]; exact Hks.out _ (by simp [hkk])
      clear hs
      have hd' : Dec wr D g ([UInt8.ofNat (s.size / 16777216), UInt8.ofNat (s.size / 65536), UInt8.ofNat (s.size / 256), UInt8.ofNat s.size] ++ (s.data.toList ++ (encs (ks.drop (k + 1)) ++ tail))) := by
        simpa [b4] using hd
      clear hd
      go_wp2_with fail
      refine (str_dec D g _ _ _ _ s.data.toList _ _ hd' hne (by rw [val4_b4 _ hss]; simp) (by simpa using hss)).mono ?_
      rintro e w3 ⟨rfl, hd3, hg3⟩
      have hrow3 := hrow.kept hg3 (Or.inr (by simp [Value.ownBlock]; omega))
      have hvo : ∃ v, w3.cell? ⟨w1.heap.size, k, none⟩ = some v := ⟨_, (hrow3.cellAt k (by omega)).trans (List.getElem?_eq_getElem (by rw [fillS_len]; exact hlt))⟩
      obtain ⟨vo, hvo⟩ := hvo
      have hfz := hrow3.frozenAt k
      have HR : Hid _ := hrow3.stored k (.string s)
      have HG : Hid _ := grown_trans hgr hg3
      have HD : Hid _ := hd3
      clear hrow hrow3 hd' hgr hg3 hd3
      go_wp2
      go_roundw
      case rel =>
        refine ⟨k + 1, by omega, by go_num, by rw [← HF.out]; exact HR.out.1, Dec.kept HD.out HR.out.2 (by simp; omega) (by simp; omega), grown_fresh2 HG.out HR.out.2 (by omega)⟩
      case measure => simp [intOf]; omega
    · obtain rfl : k = N := by omega
      have hd' : Dec wr D g tail := by
        rw [List.drop_eq_nil_of_le (by rw [HN.out]; exact Nat.le_refl _)] at hd
        simpa [encs] using hd
      clear hd
      go_wp2
      go_ret
      exact ⟨_, rfl, by omega, hrow, hd', hgr⟩

theorem search_zero (D g : Nat) (l : List UInt8) (w : World) (h : Dec w D g (b4 0 ++ l)) (hne : g ≠ D) :
    Calls Yba.prog 7 #[.pointer (some ⟨D, 0, none⟩)] w fun e w' => e = .returned (.iface 34 (.agg #[.slice none 0 0])) ∧ (∃ o cap x, w'.heap[D]? = some (.cells #[.slice (some ⟨g, o, none⟩) l.length cap, .iface 107 x] 27 (0, 0)) ∧ ∀ j, j < l.length → w'.cell? ⟨g, o + j, none⟩ = some (.int .u8 ((l.getD j 0).toNat : Int))) ∧ w.grownBy w' (some D) := by
  go_enter Yba.func7, Yba.ntmps7
  go_wp2_with fail
  refine (strs_zero D g l w h hne).mono ?_
  rintro e w1 ⟨rfl, hd1, hg1⟩
  obtain ⟨o, cap, hD, h3, h4, h5⟩ := hd1
  have Hc : Hid _ := h5
  have hDlt : D < w1.heap.size := (Array.getElem?_eq_some_iff.1 hD).1
  have HD : Hid _ := hD
  clear h5 hD
  go_wp2_with fail
  refine (check_false D _ _ _ (heap_alloc_old HD.out)).mono ?_
  rintro e w2 ⟨rfl, x, hD2, hg2⟩
  have hg12 := grown_trans (World.grownBy_alloc w1 (.cells #[.slice none 0 0] 34) (some D)) hg2
  have cS : w2.cell? ⟨w1.heap.size, 0, none⟩ = some (.slice none 0 0) := hg2.cell (by go_simp) (by simp; omega)
  have HD2 : Hid _ := hD2
  clear hD2 hg2
  go_wp2
  go_ret
  exact ⟨rfl, ⟨o, cap, x, HD2.out, fun j hj => hg12.cell (Hc.out j hj) (by simpa using hne)⟩, grown_trans hg1 hg12⟩

theorem search_some (D g N : Nat) (ks : List ByteArray) (tail : List UInt8) (w : World) (hN : ks.length = N) (h : Dec w D g (b4 N ++ (encs ks ++ tail))) (hne : g ≠ D) (hg0 : g < w.heap.size) (hn0 : 0 < N) (hn : N ≤ 1024) (hks : ∀ k ∈ ks, k.size < 4294967296) :
    Calls Yba.prog 7 #[.pointer (some ⟨D, 0, none⟩)] w fun e w' => ∃ q, e = .returned (.iface 34 (.agg #[.slice (some ⟨q, 0, none⟩) N N])) ∧ w.heap.size ≤ q ∧ w'.ownsRow 0 9 1 (.slice (some ⟨q, 0, none⟩) N N) N (fillS N N ks) ∧ Dec w' D g tail ∧ w.grownBy w' (some D) := by
  go_enter Yba.func7, Yba.ntmps7
  go_wp2_with fail
  refine (strs_some D g N ks tail w hN h hne hg0 hn0 hn hks).mono ?_
  rintro e w1 ⟨q, rfl, hq, hrow, hd1, hg1⟩
  have hdl := hd1.lt
  have hpos : (0 : Int) < (N : Int) := by omega
  clear h hks hN
  go_wp2_with (go_at_call 26; refine (check_true _ _ _).mono ?_; rintro e w' ⟨rfl, hw⟩; subst hw)
  go_ret
  exact ⟨q, rfl, hq, hrow.alloc _, hd1.kept (World.grownBy_alloc _ _ none) (by simp) (by simp), grown_trans hg1 (World.grownBy_alloc _ _ _)⟩
end Go.Proofs.Ybulkdbks

import Derived.Test.YbulkdbjcFmtBytes
import Derived.Deep.QuietTactic
import Derived.BigQuiet
import Derived.Lib.SliceRun
import Derived.WalkSmall
namespace Go.Proofs.YbulkdbjcFmt
open Go.RowKit Go.Extern.Stop Go.Stop Go.Extern

def bcells (zs : List Int) : List Value := zs.map (Value.int .u8)

theorem owns_of_heap {w : World} {B n : Nat} {cs : List Value} (hl : cs.length = n) (hn : n ≤ maxLen) (h : w.heap[B]? = some (.cells cs.toArray 5 (0, 0))) :
    w.ownsRow B 5 1 (.slice (some ⟨B, 0, none⟩) n n) n cs := by
  refine ⟨by omega, Or.inr ⟨B, n, cs.toArray, rfl, Nat.le_refl _, h, Nat.le_refl _, hn, by simp [hl], ?_⟩⟩
  simp [← hl]

theorem heap_of_owns {w : World} {B n : Nat} {cs : List Value} (h : w.ownsRow B 5 1 (.slice (some ⟨B, 0, none⟩) n n) n cs) : w.heap[B]? = some (.cells cs.toArray 5 (0, 0)) := by
  rcases h.2 with ⟨h', _⟩ | ⟨g', cap', cur, h', _, hg, _, _, hsz, htake⟩
  · simp at h'
  · simp only [Value.slice.injEq, Option.some.injEq, Addr.mk.injEq, and_true, true_and] at h'
    obtain ⟨rfl, rfl⟩ := h'
    rw [hg]
    have e : cur = cs.toArray := by
      apply Array.toList_inj.1
      rw [← htake, List.take_of_length_le (by simp [hsz])]
    rw [e]


/-- What the walk is told of the bytes that came in. -/
def InBytes (w : World) (ao : Option Addr) (len : Nat) (zs : List Int) : Prop :=
  zs.length = len ∧ (0 < len → ∃ b off, ao = some ⟨b, off, none⟩ ∧ b < w.heap.size ∧ ∀ j, j < len → w.cell? ⟨b, off + j, none⟩ = some (.int .u8 (zs.getD j 0)))

theorem bcells_len (zs : List Int) : (bcells zs).length = zs.length := by simp [bcells]
theorem in_src {w w0 : World} {ao : Option Addr} {len : Nat} {zs : List Int} (h : InBytes w ao len zs) (hb : Below w.heap.size w w0) :
    0 < (bcells zs).length → ∃ ad, ao = some ad ∧ ∀ (j : Nat) (v : Value), (bcells zs)[j]? = some v → w0.cell? (ad.add j) = some v := by
  intro hp
  rw [bcells_len, h.1] at hp
  obtain ⟨b, off, rfl, hbs, hc⟩ := h.2 hp
  refine ⟨_, rfl, fun j v hj => ?_⟩
  have hlt : j < zs.length := by
    have := (List.getElem?_eq_some_iff.1 hj).1
    simpa [bcells] using this
  rw [Addr.add_lit, hb.cell hbs, hc j (by rw [← h.1]; exact hlt)]
  simp [bcells, hlt] at hj
  rw [← hj]; simp [hlt]
theorem splice_all {zs : List Int} {len : Nat} (h : zs.length = len) : splice (madeCells #[Value.int IntKind.u8 0] len).toList 0 (bcells zs) = bcells zs := by
  unfold splice
  have e : (madeCells #[Value.int IntKind.u8 0] len).toList.drop (0 + (bcells zs).length) = [] := by
    apply List.drop_eq_nil_of_le
    rw [bcells_len, h]; simp [size_madeCells]
  rw [e]; simp
theorem bcells_one (zs : List Int) : ∀ v ∈ bcells zs, v.oneCell' = true := ints_oneCell _ _
theorem made_len (len : Nat) : (madeCells #[Value.int IntKind.u8 0] len).toList.length = len := by simp [size_madeCells]

set_option maxHeartbeats 2000000 in
set_option maxRecDepth 100000 in
theorem append_neg (F : Interp) (n l : Int) (ao : Option Addr) (len cap : Nat) (zs : List Int) (a : Addr) (s : ByteArray) (w : World) (hF : F.answers w.tape) (hn : n < 0)
    (hlen : len ≤ 1024) (hin : InBytes w ao len zs)
    (hg : w.cell? ⟨1, 0, none⟩ = some (.iface 76 (.pointer (some a)))) (hs : w.cell? a = some (.string s)) :
    Calls Ybaf.prog 6 #[.int .i64 n, .int .u32 l, .slice ao len cap] w fun e w' => e = .returned (.bool true) ∧ Below w.heap.size w w' := by
  have h1s : 1 < w.heap.size := World.block_lt_of_cell? w _ hg
  have has : a.block < w.heap.size := World.block_lt_of_cell? w _ hs
  have q67 : ∀ (w : World) (a : Option Addr) (n c n' c' : Nat), (binOp .eql 67 (.slice a n c) (.slice none n' c')).run Ybaf.prog w = .ok (.bool a.isNone) w := fun w a n c n' c' => Lib.run_eql_slice_nil w _ _ a n c n' c' Ybaf.underlying67
  obtain ⟨i0, hi, hz0, hz1, hz2⟩ := info_parts info5
  have hsz5 : (Ybaf.prog.info? 5).map (·.size) = some 1 := by rw [hi]; simp [hz1]
  have Hin : Hid (InBytes w ao len zs) := hin
  clear hin
  go_enter Ybaf.func6, Ybaf.ntmps6
  go_wp2_with (at_make; refine wpList_make_full _ rfl _ _ 67 rfl w.heap.size 5 i0 (.int .u8 0) 1 Ybaf.underlying67 hi hz0 hz1 _ _ _ _ len rfl rfl (by omega) (by omega) ?b2 ?b3 (Nat.le_refl _) ?_)
  case b2 => rw [hz2]; omega
  case b3 => unfold maxLen; omega
  intro w0 hown0 hgrow0
  have hb0 : Below w.heap.size w w0 := (Below.refl _ _).grown hgrow0 (Nat.le_refl _) (fun k h => by cases h)
  clear hgrow0
  have hsz0 : w.heap.size < w0.heap.size := (hown0.lt _ rfl).2
  have hh0 := (show Hid _ from heap_of_owns hown0)
  clear hown0
  go_wp2_with (refine wpList_copy_splice rfl (.tmp 20) (.tmp 21) 67 67 rfl 5 Ybaf.underlying67 hsz5 _ _ _ _ _ _ rfl rfl w.heap.size 0 _ 5 hh0.out (bcells zs) ?k1 ?k2 ?k3 ?k4 w.heap.size w hb0 (Nat.le_refl _) ?_)
  case k1 => rw [bcells_len, Hin.out.1]; simp
  case k2 => first | exact in_src Hin.out hb0 | exact fun h => ⟨rfl, in_src Hin.out hb0 h⟩
  case k3 => rw [bcells_len, Hin.out.1, made_len]; omega
  case k4 => exact bcells_one zs
  intro w1 hh1 hb1
  have hown1 : w1.ownsRow w.heap.size 5 1 (.slice (some ⟨w.heap.size, 0, none⟩) len len) len (bcells zs) := by
    have h1 := hh1.out
    rw [splice_all Hin.out.1] at h1
    exact owns_of_heap (by rw [bcells_len, Hin.out.1]) (by unfold maxLen; omega) h1
  have hsz1 : w.heap.size < w1.heap.size := (hown1.lt _ rfl).2
  clear hh1 hh0 hb0 hsz0
  have hF1 : F.answers w1.tape := by rw [hb1.tape]; exact hF
  go_wp2_with fail
  refine (ab_neg F n l _ a s _ hF1 hn ((hb1.cell (by exact h1s)).trans hg) ((hb1.cell has).trans hs)).mono ?_
  rintro e w2 ⟨pb, rfl, hc2, hb2⟩
  have hb2' : Below w.heap.size w w2 := hb1.trans (hb2.mono (by omega))
  have hg2 : w2.cell? ⟨1, 0, none⟩ = some (.iface 76 (.pointer (some a))) := (hb2'.cell (by exact h1s)).trans hg
  clear hb1 hb2 hown1 hF hF1 hg hs
  go_wp2_with (go_at_call 16; refine (is_wrap_same _ 0 a _ hc2).mono ?_; rintro e w' ⟨rfl, rfl⟩)
  go_ret
  exact ⟨rfl, hb2'⟩

theorem tail_cell {n l : Int} {zs : List Int} {len j : Nat} (hz : zs.length = len) (hj : j < 12) : (bcells zs ++ be8 n ++ be4 l)[len + j]? = (be8 n ++ be4 l)[j]? := by
  rw [List.append_assoc, List.getElem?_append_right (by rw [bcells_len, hz]; omega), bcells_len, hz]
  congr 1
  omega

set_option maxHeartbeats 4000000 in
set_option maxRecDepth 100000 in
theorem append_ok (n l : Int) (ao : Option Addr) (len cap : Nat) (zs : List Int) (w : World) (hn : 0 ≤ n) (hn1 : n < 9223372036854775808) (hl0 : 0 ≤ l) (hl1 : l < 4294967296)
    (hlen : len ≤ 1024) (hin : InBytes w ao len zs) :
    Calls Ybaf.prog 6 #[.int .i64 n, .int .u32 l, .slice ao len cap] w fun e w' => e = .returned (.bool true) ∧ Below w.heap.size w w' := by
  obtain ⟨i0, hi, hz0, hz1, hz2⟩ := info_parts info5
  have hsz5 : (Ybaf.prog.info? 5).map (·.size) = some 1 := by rw [hi]; simp [hz1]
  have Hin : Hid (InBytes w ao len zs) := hin
  clear hin
  go_enter Ybaf.func6, Ybaf.ntmps6
  go_wp2_with (at_make; refine wpList_make_full _ rfl _ _ 67 rfl w.heap.size 5 i0 (.int .u8 0) 1 Ybaf.underlying67 hi hz0 hz1 _ _ _ _ len rfl rfl (by omega) (by omega) ?b2 ?b3 (Nat.le_refl _) ?_)
  case b2 => rw [hz2]; omega
  case b3 => unfold maxLen; omega
  intro w0 hown0 hgrow0
  have hb0 : Below w.heap.size w w0 := (Below.refl _ _).grown hgrow0 (Nat.le_refl _) (fun k h => by cases h)
  clear hgrow0
  have hsz0 : w.heap.size < w0.heap.size := (hown0.lt _ rfl).2
  have hh0 := (show Hid _ from heap_of_owns hown0)
  clear hown0
  go_wp2_with (refine wpList_copy_splice rfl (.tmp 20) (.tmp 21) 67 67 rfl 5 Ybaf.underlying67 hsz5 _ _ _ _ _ _ rfl rfl w.heap.size 0 _ 5 hh0.out (bcells zs) ?k1 ?k2 ?k3 ?k4 w.heap.size w hb0 (Nat.le_refl _) ?_)
  case k1 => rw [bcells_len, Hin.out.1]; simp
  case k2 => first | exact in_src Hin.out hb0 | exact fun h => ⟨rfl, in_src Hin.out hb0 h⟩
  case k3 => rw [bcells_len, Hin.out.1, made_len]; omega
  case k4 => exact bcells_one zs
  intro w1 hh1 hb1
  have hown1 : w1.ownsRow w.heap.size 5 1 (.slice (some ⟨w.heap.size, 0, none⟩) len len) len (bcells zs) := by
    have h1 := hh1.out
    rw [splice_all Hin.out.1] at h1
    exact owns_of_heap (by rw [bcells_len, Hin.out.1]) (by unfold maxLen; omega) h1
  have hsz1 : w.heap.size < w1.heap.size := (hown1.lt _ rfl).2
  clear hh1 hh0 hb0 hsz0
  go_wp2_with fail
  refine (ab_ok n l _ len _ w.heap.size _ hn hn1 hl0 hl1 hown1 (by omega) (by omega)).mono ?_
  rintro e w2 ⟨v2, rfl, hown2, hb2⟩
  have hb2' : Below w.heap.size w w2 := hb1.trans hb2
  obtain ⟨g, c2, rfl⟩ : ∃ g c2, v2 = .slice (some ⟨g, 0, none⟩) (len + 12) c2 := by
    rcases hown2.2 with ⟨_, h⟩ | ⟨g, c2, _, h, _⟩
    · omega
    · exact ⟨g, c2, h⟩
  have HC : Hid (∀ j, j < len + 12 → w2.cell? ⟨g, j, none⟩ = (bcells zs ++ be8 n ++ be4 l)[j]?) := fun j hj => hown2.cellAt j (by omega)
  clear hb1 hb2 hown1 hown2
  go_wp2
  go_loopw [10] (fun i wr => ∃ k : Nat, k ≤ len ∧ i = .int .i64 k ∧ ∃ nq, wr = w2.drewN nq) (fun i _ => len - (intOf i).toNat)
  case atStart => exact ⟨0, Nat.zero_le _, rfl, 0, rfl⟩
  case round =>
    obtain ⟨k, hk, rfl, nq, rfl⟩ := hrel
    by_cases hlt : k < len
    · obtain ⟨b, off, rfl, hbs, hc⟩ := Hin.out.2 (by omega)
      have hk1 : w2.cell? ⟨b, off + k, none⟩ = some (.int .u8 (zs.getD k 0)) := (hb2'.cell hbs).trans (hc k hlt)
      have hk2 : w2.cell? ⟨g, k, none⟩ = some (.int .u8 (zs.getD k 0)) := by
        rw [HC.out k (by omega), List.append_assoc, List.getElem?_append_left (by rw [bcells_len, Hin.out.1]; exact hlt)]
        simp [bcells, Hin.out.1, hlt]
      clear hc
      generalize zs.getD k 0 = z at *
      have hlt1 : (k : Int) < (len : Int) := by omega
      have hlt2 : (k : Int) < (len : Int) + 12 := by omega
      go_wp2
      go_quiet (fail)
      go_wp2
      go_roundw
      case rel => exact ⟨k + 1, by omega, by go_num, _, rfl⟩
      case measure => simp [intOf]; omega
    · have hz := Hin.out.1
      have T := fun j (hj : j < 12) => (HC.out (len + j) (by omega)).trans (tail_cell (n := n) (l := l) hz hj)
      have t0 : w2.cell? ⟨g, len, none⟩ = some (.int .u8 (n / 72057594037927936)) := T 0 (by omega)
      have t1 : w2.cell? ⟨g, len + 1, none⟩ = some (.int .u8 (n / 281474976710656 % 256)) := T 1 (by omega)
      have t2 : w2.cell? ⟨g, len + 2, none⟩ = some (.int .u8 (n / 1099511627776 % 256)) := T 2 (by omega)
      have t3 : w2.cell? ⟨g, len + 3, none⟩ = some (.int .u8 (n / 4294967296 % 256)) := T 3 (by omega)
      have t4 : w2.cell? ⟨g, len + 4, none⟩ = some (.int .u8 (n / 16777216 % 256)) := T 4 (by omega)
      have t5 : w2.cell? ⟨g, len + 5, none⟩ = some (.int .u8 (n / 65536 % 256)) := T 5 (by omega)
      have t6 : w2.cell? ⟨g, len + 6, none⟩ = some (.int .u8 (n / 256 % 256)) := T 6 (by omega)
      have t7 : w2.cell? ⟨g, len + 7, none⟩ = some (.int .u8 (n % 256)) := T 7 (by omega)
      have t8 : w2.cell? ⟨g, len + 8, none⟩ = some (.int .u8 (l / 16777216)) := T 8 (by omega)
      have t9 : w2.cell? ⟨g, len + 8 + 1, none⟩ = some (.int .u8 (l / 65536 % 256)) := T 9 (by omega)
      have t10 : w2.cell? ⟨g, len + 8 + 2, none⟩ = some (.int .u8 (l / 256 % 256)) := T 10 (by omega)
      have t11 : w2.cell? ⟨g, len + 8 + 3, none⟩ = some (.int .u8 (l % 256)) := T 11 (by omega)
      clear T hz
      go_wp2
      refine wp_loop_rounds 9 ?_
      rw [rounds_succ]
      go_wp2
      rw [rounds_succ]
      go_wp2
      rw [rounds_succ]
      go_wp2
      rw [rounds_succ]
      go_wp2
      rw [rounds_succ]
      go_wp2
      rw [rounds_succ]
      go_wp2
      rw [rounds_succ]
      go_wp2
      rw [rounds_succ]
      go_wp2
      rw [rounds_succ]
      go_wp2
      refine wp_loop_rounds 5 ?_
      rw [rounds_succ]
      go_wp2
      rw [rounds_succ]
      go_wp2
      rw [rounds_succ]
      go_wp2
      rw [rounds_succ]
      go_wp2
      rw [rounds_succ]
      go_wp2
      go_ret
      exact ⟨rfl, below_drewN hb2' _⟩

theorem append_long (n l : Int) (ao : Option Addr) (len cap : Nat) (w : World) (hlen : 1024 < len) :
    Calls Ybaf.prog 6 #[.int .i64 n, .int .u32 l, .slice ao len cap] w fun e w' => e = .returned (.bool true) ∧ Below w.heap.size w w' := by
  go_enter Ybaf.func6, Ybaf.ntmps6
  go_wp2
  go_ret
  exact ⟨rfl, Below.refl _ _⟩

end Go.Proofs.YbulkdbjcFmt

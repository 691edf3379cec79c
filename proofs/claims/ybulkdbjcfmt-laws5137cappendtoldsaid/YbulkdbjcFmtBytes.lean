import Derived.Test.YbulkdbjcFmtCheckWalk
import Derived.Laws.CopyOwn
namespace Go.Proofs.YbulkdbjcFmt
open Go.RowKit Go.Extern.Stop Go.Stop Go.Extern

theorem info5 : (Ybaf.prog.info? 5).map (fun i => (i.zero, i.size, i.bytes)) = some (some (.int .u8 0), 1, 1) := by kernel_rfl

theorem grown_trans {a b c : World} {row : Option Nat} (h : a.grownBy b row) (k : b.grownBy c row) : a.grownBy c row :=
  ⟨k.os.trans h.os, k.tape.trans h.tape, k.output.trans h.output, Nat.le_trans h.size k.size, fun i hi hne => (k.block i (Nat.lt_of_lt_of_le hi h.size) hne).trans (h.block i hi hne)⟩

theorem ownsRow_below {w w' : World} {base : Nat} {e : TypeId} {size : Nat} {v : Value} {n : Nat} {xs : List Value} (h : w.ownsRow base e size v n xs) (hb : Below w.heap.size w w') : w'.ownsRow base e size v n xs :=
  h.kept (row := none) ⟨hb.os, hb.tape, hb.output, hb.size, fun k hk _ => hb.block k hk⟩ (by cases hv : v.ownBlock <;> simp)

def be8 (x : Int) : List Value := [.int .u8 (x / 72057594037927936), .int .u8 (x / 281474976710656 % 256), .int .u8 (x / 1099511627776 % 256), .int .u8 (x / 4294967296 % 256), .int .u8 (x / 16777216 % 256), .int .u8 (x / 65536 % 256), .int .u8 (x / 256 % 256), .int .u8 (x % 256)]
def be4 (x : Int) : List Value := [.int .u8 (x / 16777216), .int .u8 (x / 65536 % 256), .int .u8 (x / 256 % 256), .int .u8 (x % 256)]

set_option maxHeartbeats 2000000 in
set_option maxRecDepth 100000 in
theorem app64 (x : Int) (v : Value) (n : Nat) (xs : List Value) (base : Nat) (w : World) (hx0 : 0 ≤ x) (hx1 : x < 18446744073709551616) (hown : w.ownsRow base 5 1 v n xs) (hb : base ≤ w.heap.size) (hn : n ≤ 100000) :
    Calls Ybaf.prog 29 #[.agg #[], v, .int .u64 x] w fun e w' => ∃ v', e = .returned v' ∧ w'.ownsRow base 5 1 v' (n + 8) (xs ++ be8 x) ∧ w.grownBy w' v.ownBlock := by
  obtain ⟨i0, hi, hz0, hz1, hz2⟩ := info_parts info5
  go_enter Ybaf.func29, Ybaf.ntmps29
  go_wp2_with (at_builtin; refine wpList_append_own _ rfl _ _ 67 rfl base 5 i0 (.int .u8 0) 1 1 Ybaf.underlying67 hi hz0 hz1 hz2 rfl (by decide) _ _ _ rfl ((hown.alloc _).alloc _) _ 8 8 (be8 x) rfl rfl ?c1 ?c2 ?c3 ?c4 ?c5 ?_)
  case c1 =>
    intro j u hj
    match j, hj with
    | 0, hj => simp [be8] at hj; subst hj; simp [Addr.add]
    | 1, hj => simp [be8] at hj; subst hj; simp [Addr.add]
    | 2, hj => simp [be8] at hj; subst hj; simp [Addr.add]
    | 3, hj => simp [be8] at hj; subst hj; simp [Addr.add]
    | 4, hj => simp [be8] at hj; subst hj; simp [Addr.add]
    | 5, hj => simp [be8] at hj; subst hj; simp [Addr.add]
    | 6, hj => simp [be8] at hj; subst hj; simp [Addr.add]
    | 7, hj => simp [be8] at hj; subst hj; simp [Addr.add]
  case c2 => intro u hu; simp [be8] at hu; rcases hu with rfl | rfl | rfl | rfl | rfl | rfl | rfl | rfl <;> rfl
  case c3 => unfold maxLen; omega
  case c4 => omega
  case c5 => simp; omega
  intro v' w2 hown' hgrow _
  go_wp2
  go_ret
  exact ⟨v', rfl, hown', grown_trans (grown_trans (World.grownBy_alloc _ _ _) (World.grownBy_alloc _ _ _)) hgrow⟩

set_option maxHeartbeats 2000000 in
set_option maxRecDepth 100000 in
theorem app32 (x : Int) (v : Value) (n : Nat) (xs : List Value) (base : Nat) (w : World) (hx0 : 0 ≤ x) (hx1 : x < 4294967296) (hown : w.ownsRow base 5 1 v n xs) (hb : base ≤ w.heap.size) (hn : n ≤ 100000) :
    Calls Ybaf.prog 30 #[.agg #[], v, .int .u32 x] w fun e w' => ∃ v', e = .returned v' ∧ w'.ownsRow base 5 1 v' (n + 4) (xs ++ be4 x) ∧ w.grownBy w' v.ownBlock := by
  obtain ⟨i0, hi, hz0, hz1, hz2⟩ := info_parts info5
  go_enter Ybaf.func30, Ybaf.ntmps30
  go_wp2_with (at_builtin; refine wpList_append_own _ rfl _ _ 67 rfl base 5 i0 (.int .u8 0) 1 1 Ybaf.underlying67 hi hz0 hz1 hz2 rfl (by decide) _ _ _ rfl ((hown.alloc _).alloc _) _ 4 4 (be4 x) rfl rfl ?c1 ?c2 ?c3 ?c4 ?c5 ?_)
  case c1 =>
    intro j u hj
    match j, hj with
    | 0, hj => simp [be4] at hj; subst hj; simp [Addr.add]
    | 1, hj => simp [be4] at hj; subst hj; simp [Addr.add]
    | 2, hj => simp [be4] at hj; subst hj; simp [Addr.add]
    | 3, hj => simp [be4] at hj; subst hj; simp [Addr.add]
  case c2 => intro u hu; simp [be4] at hu; rcases hu with rfl | rfl | rfl | rfl <;> rfl
  case c3 => unfold maxLen; omega
  case c4 => omega
  case c5 => simp; omega
  intro v' w2 hown' hgrow _
  go_wp2
  go_ret
  exact ⟨v', rfl, hown', grown_trans (grown_trans (World.grownBy_alloc _ _ _) (World.grownBy_alloc _ _ _)) hgrow⟩

set_option maxHeartbeats 1000000 in
theorem ab_ok (n l : Int) (v : Value) (m : Nat) (xs : List Value) (base : Nat) (w : World) (hn : 0 ≤ n) (hn1 : n < 9223372036854775808) (hl0 : 0 ≤ l) (hl1 : l < 4294967296) (hown : w.ownsRow base 5 1 v m xs) (hb : base ≤ w.heap.size) (hm : m ≤ 5000) :
    Calls Ybaf.prog 18 #[.agg #[.int .i64 n, .int .u32 l], v] w fun e w' => ∃ v', e = .returned (.tuple #[v', .nilIface]) ∧ w'.ownsRow base 5 1 v' (m + 8 + 4) (xs ++ be8 n ++ be4 l) ∧ Below base w w' := by
  go_enter Ybaf.func18, Ybaf.ntmps18
  go_wp2_with fail
  refine (checkWire_ok n l _ (by omega)).mono ?_
  rintro e w1 ⟨rfl, hb1⟩
  have hsz : w.heap.size + 1 ≤ w1.heap.size := by have := hb1.size; simpa using this
  have c0 : w1.cell? ⟨w.heap.size, 0, none⟩ = some (.int .i64 n) := (hb1.cell (p := ⟨w.heap.size, 0, none⟩) (by simp)).trans (by go_simp)
  have c1 : w1.cell? ⟨w.heap.size, 1, none⟩ = some (.int .u32 l) := (hb1.cell (p := ⟨w.heap.size, 1, none⟩) (by simp)).trans (by go_simp)
  have hbw : Below w.heap.size w w1 := ((Below.refl _ _).alloc (Nat.le_refl _) _).trans (hb1.mono (by simp))
  have hown1 : w1.ownsRow base 5 1 v m xs := ownsRow_below hown hbw
  have hne : some w.heap.size ≠ v.ownBlock := fun h => by have := hown.lt _ h.symm; omega
  have hbb : Below base w w1 := hbw.mono hb
  clear hown hbw
  clear hb1
  go_wp2_with fail
  refine (app64 n v m xs base _ hn (by omega) hown1 (by omega) (by omega)).mono ?_
  rintro e w2 ⟨v2, rfl, hown2, hg2⟩
  have hb2 : Below base w w2 := hbb.grown hg2 (by omega) (fun k hk => (hown1.lt k hk).1)
  have c2 : w2.cell? ⟨w.heap.size, 1, none⟩ = some (.int .u32 l) := hg2.cell c1 hne
  have hsz2 := hg2.size
  clear hg2 hown1 c0 c1 hbb
  go_wp2_with fail
  refine (app32 l v2 (m + 8) _ base _ hl0 hl1 hown2 (by omega) (by omega)).mono ?_
  rintro e w3 ⟨v3, rfl, hown3, hg3⟩
  have hb3 : Below base w w3 := hb2.grown hg3 (by omega) (fun k hk => (hown2.lt k hk).1)
  clear hg3 hown2
  go_wp2
  go_ret2
  exact ⟨v3, rfl, hown3, hb3⟩

set_option maxHeartbeats 1000000 in
theorem ab_neg (F : Interp) (n l : Int) (v : Value) (a : Addr) (s : ByteArray) (w : World) (hF : F.answers w.tape) (hn : n < 0) (hg : w.cell? ⟨1, 0, none⟩ = some (.iface 76 (.pointer (some a)))) (hs : w.cell? a = some (.string s)) :
    Calls Ybaf.prog 18 #[.agg #[.int .i64 n, .int .u32 l], v] w fun e w' => ∃ pb, e = .returned (.tuple #[.slice none 0 0, .iface 106 (.pointer (some ⟨pb, 0, none⟩))]) ∧ w'.cell? ⟨pb, 0 + 1, none⟩ = some (.iface 76 (.pointer (some a))) ∧ Below w.heap.size w w' := by
  have h1s : 1 < w.heap.size := World.block_lt_of_cell? w _ hg
  have has : a.block < w.heap.size := World.block_lt_of_cell? w _ hs
  go_enter Ybaf.func18, Ybaf.ntmps18
  go_wp2_with fail
  refine (checkWire_neg F n l a s _ ?f1 hn ?f2 ?f3).mono ?_
  case f1 => exact hF
  case f2 => exact (((Below.refl _ w).alloc (Nat.le_refl _) _).cell (by exact h1s)).trans hg
  case f3 => exact (((Below.refl _ w).alloc (Nat.le_refl _) _).cell has).trans hs
  rintro e w1 ⟨rfl, hc, hb1⟩
  have hbw : Below w.heap.size w w1 := ((Below.refl _ _).alloc (Nat.le_refl _) _).trans (hb1.mono (by simp))
  clear hb1
  go_wp2
  go_ret2
  exact ⟨_, rfl, by simpa using hc, hbw⟩
end Go.Proofs.YbulkdbjcFmt

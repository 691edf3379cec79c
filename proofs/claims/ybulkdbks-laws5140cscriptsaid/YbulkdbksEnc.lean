import Derived.Test.YbulkdbksWire
import Derived.WalkSmall
namespace Go.Proofs.Ybulkdbks
open Go.RowKit

/-- A slice value of bytes that can be read: its bytes are l. -/
def BytesAt (w : World) (ao : Option Addr) (l : List UInt8) : Prop :=
  0 < l.length → ∃ g o, ao = some ⟨g, o, none⟩ ∧ ∀ j, j < l.length → w.cell? ⟨g, o + j, none⟩ = some (.int .u8 ((l.getD j 0).toNat : Int))

set_option maxHeartbeats 400000 in
theorem beq_any (ao bo : Option Addr) (n ca cb : Nat) (l : List UInt8) (w : World) (hl : l.length = n) (hn : n ≤ 100000) (ha : BytesAt w ao l) (hb : BytesAt w bo l) :
    Calls Yba.prog 8 #[.slice ao n ca, .slice bo n cb] w fun e w' => e = .returned (.bool true) ∧ w.grownBy w' none := by
  have HA : Hid _ := ha
  have HB : Hid _ := hb
  have Hl : Hid _ := hl
  clear ha hb hl
  go_enter Yba.func8, Yba.ntmps8
  go_wp2
  go_loopw [5] (fun i wr => ∃ k : Nat, k ≤ n ∧ i = .int .i64 k ∧ ∃ nq, wr = w.drewN nq) (fun i _ => n - (intOf i).toNat)
  case atStart => exact ⟨0, Nat.zero_le _, rfl, 0, rfl⟩
  case round =>
    obtain ⟨k, hk, rfl, nq, rfl⟩ := hrel
    by_cases hlt : k < n
    · obtain ⟨g, o, rfl, hc⟩ := HA.out (by rw [Hl.out]; omega)
      obtain ⟨g', o', rfl, hc'⟩ := HB.out (by rw [Hl.out]; omega)
      have h1 := hc k (by rw [Hl.out]; omega)
      have h2 := hc' k (by rw [Hl.out]; omega)
      clear hc hc'
      generalize ((l.getD k 0).toNat : Int) = z at *
      have hltI : (k : Int) < (n : Int) := by omega
      go_wp2
      go_quiet (fail)
      go_wp2
      go_roundw
      case rel => exact ⟨k + 1, by omega, by go_num, _, rfl⟩
      case measure => simp [intOf]; omega
    · go_wp2
      go_ret
      exact ⟨rfl, ⟨rfl, rfl, rfl, Nat.le_refl _, fun _ _ _ => rfl⟩⟩

theorem info5 : (Yba.prog.info? 5).map (fun i => (i.zero, i.size, i.bytes)) = some (some (.int .u8 0), 1, 1) := by kernel_rfl

def be4 (x : Int) : List Value := [.int .u8 (x / 16777216), .int .u8 (x / 65536 % 256), .int .u8 (x / 256 % 256), .int .u8 (x % 256)]
theorem be4_bc (n : Nat) (h : n < 4294967296) : be4 (n : Int) = bc (b4 n) := by
  simp only [be4, bc, b4, List.map_cons, List.map_nil, UInt8.toNat_ofNat']
  have e1 : ((n / 16777216 % 2 ^ 8 : Nat) : Int) = (n : Int) / 16777216 := by omega
  have e2 : ((n / 65536 % 2 ^ 8 : Nat) : Int) = (n : Int) / 65536 % 256 := by omega
  have e3 : ((n / 256 % 2 ^ 8 : Nat) : Int) = (n : Int) / 256 % 256 := by omega
  have e4 : ((n % 2 ^ 8 : Nat) : Int) = (n : Int) % 256 := by omega
  rw [e1, e2, e3, e4]

set_option maxHeartbeats 2000000 in
set_option maxRecDepth 100000 in
theorem app32 (x : Nat) (v : Value) (n : Nat) (l : List UInt8) (base : Nat) (w : World) (hx1 : x < 4294967296) (hown : w.ownsRow base 5 1 v n (bc l)) (hb : base ≤ w.heap.size) (hn : n ≤ 10000000) :
    Calls Yba.prog 10 #[.agg #[], v, .int .u32 x] w fun e w' => ∃ v', e = .returned v' ∧ w'.ownsRow base 5 1 v' (n + 4) (bc (l ++ b4 x)) ∧ w.grownBy w' v.ownBlock := by
  obtain ⟨i0, hi, hz0, hz1, hz2⟩ := info_parts info5
  have HX : Hid (bc l ++ be4 (x : Int) = bc (l ++ b4 x)) := by show _ = _; rw [be4_bc x hx1]; simp [bc]
  have hx0 : (0 : Int) ≤ (x : Int) := by omega
  have hx2 : (x : Int) < 4294967296 := by omega
  generalize (x : Int) = y at *
  go_enter Yba.func10, Yba.ntmps10
  go_wp2_with (at_builtin; refine wpList_append_own _ rfl _ _ 22 rfl base 5 i0 (.int .u8 0) 1 1 Yba.underlying22 hi hz0 hz1 hz2 rfl (by decide) _ _ _ rfl ((hown.alloc _).alloc _) _ 4 4 (be4 y) rfl rfl ?c1 ?c2 ?c3 ?c4 ?c5 ?_)
  case c1 =>
    intro j u hj
    match j, hj with
    | 0, hj => simp [be4] at hj; subst hj; simp [Addr.add]
    | 1, hj => simp [be4] at hj; subst hj; simp [Addr.add]
    | 2, hj => simp [be4] at hj; subst hj; simp [Addr.add]
    | 3, hj => simp [be4] at hj; subst hj; simp [Addr.add]
  case c2 => intro u hu; simp [be4] at hu; rcases hu with rfl | rfl | rfl | rfl <;> rfl
  case c3 => unfold maxLen; omega
  case c4 => omega
  case c5 => simp; omega
  intro v' w2 hown' hgrow _
  go_wp2
  go_ret
  exact ⟨v', rfl, by rw [← HX.out]; exact hown', grown_trans (grown_trans (World.grownBy_alloc _ _ _) (World.grownBy_alloc _ _ _)) hgrow⟩
end Go.Proofs.Ybulkdbks

import Derived.Test.YbulkdbmwSw
namespace Go.Proofs.Ybulkdbmw
open Go Go.RowKit

/-- A block, its list aside. -/
structure Hd where
  nm : ByteArray
  sz : Int
  vw : Int
  h0 : Int
  h1 : Int
  h2 : Int
  h3 : Int
  h4 : Int
  h5 : Int
  tg : Int
  ti : Int
  tc : Int
  av : Int
  sq : Int
  rm : Bool

def Hd.val (h : Hd) (pd : Value) : Value := .agg #[.string h.nm, .int .u64 h.sz, .int .u64 h.vw, .int .u32 h.h0, .int .u32 h.h1, .int .u32 h.h2, .int .u32 h.h3, .int .u32 h.h4, .int .u32 h.h5, .int .u32 h.tg, .int .u64 h.ti, .int .u64 h.tc, .int .u64 h.av, .int .u64 h.sq, .bool h.rm, pd]

def Hd.hs (h : Hd) : List Int := [h.h0, h.h1, h.h2, h.h3, h.h4, h.h5]

def newer (b o : Hd) : Bool :=
  if b.av ≠ o.av then decide (b.av > o.av) else if b.sq ≠ o.sq then decide (b.sq > o.sq) else if b.tg ≠ o.tg then decide (b.tg > o.tg) else if b.ti ≠ o.ti then decide (b.ti > o.ti) else if b.tc ≠ o.tc then decide (b.tc > o.tc) else false

theorem gA (w : World) (o : Obj) : w.grownBy (w.alloc o) none := World.grownBy_alloc w o none
theorem gA2 (w : World) (o p : Obj) : w.grownBy ((w.alloc o).alloc p) none := gtr (gA w o) (gA _ p)
theorem gD {w w' : World} {r : Option Nat} (h : w.grownBy w' r) (n : Nat) : w.grownBy (w'.drewN n) r := ⟨h.os, h.tape, h.output, h.size, h.block⟩

set_option maxHeartbeats 3200000 in
set_option maxRecDepth 100000 in
theorem zznewer_u (b o : Hd) (p q : Value) (w : World) : Calls Yba.prog 13 #[b.val p, o.val q] w fun e w' => e = .returned (.bool (newer b o)) ∧ w.grownBy w' none := by
  obtain ⟨nm, sz, vw, h0, h1, h2, h3, h4, h5, tg, ti, tc, av, sq, rm⟩ := b
  obtain ⟨nm', sz', vw', h0', h1', h2', h3', h4', h5', tg', ti', tc', av', sq', rm'⟩ := o
  simp only [Hd.val, newer]
  go_enter Yba.func13, Yba.ntmps13
  rcases Classical.em (av = av') with rfl | e1
  · rcases Classical.em (sq = sq') with rfl | e2
    · rcases Classical.em (tg = tg') with rfl | e3
      · rcases Classical.em (ti = ti') with rfl | e4
        · rcases Classical.em (tc = tc') with rfl | e5
          · go_wp2
            go_ret
            exact ⟨by simp, gA2 _ _ _⟩
          · go_wp2
            go_ret
            exact ⟨by simp, gA2 _ _ _⟩
        · go_wp2
          go_ret
          exact ⟨by simp, gA2 _ _ _⟩
      · go_wp2
        go_ret
        exact ⟨by simp, gA2 _ _ _⟩
    · go_wp2
      go_ret
      exact ⟨by simp, gA2 _ _ _⟩
  · go_wp2
    go_ret
    exact ⟨by simp, gA2 _ _ _⟩
end Go.Proofs.Ybulkdbmw

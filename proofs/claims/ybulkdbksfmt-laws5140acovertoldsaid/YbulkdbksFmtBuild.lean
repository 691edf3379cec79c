import Derived.Test.YbulkdbksFmtOr
namespace Go.Proofs.YbulkdbksFmt
open Go.RowKit

def mk (bits : Int) (x : Nat) : Nat := x &&& (IntKind.u64.wrap (IntKind.u64.wrap (2 ^ (bits % 64).toNat) - 1)).toNat
def maskL (bits : Int) (n : Nat) (ws : List Nat) : List Nat := if bits % 64 = 0 then ws else ws.set (n - 1) (mk bits (ws.getD (n - 1) 0))

theorem wrap_bd (n : Int) : 0 ≤ IntKind.u64.wrap n ∧ IntKind.u64.wrap n < 18446744073709551616 := by
  rw [IntKind.wrap_u64]; omega
theorem and_mk (bits : Int) (x : Nat) (hx : x < 18446744073709551616) : Go.bits .and .u64 (x : Int) (IntKind.u64.wrap (IntKind.u64.wrap (2 ^ (bits % 64).toNat) - 1)) = ((mk bits x : Nat) : Int) := by
  have hb := wrap_bd (IntKind.u64.wrap (2 ^ (bits % 64).toNat) - 1)
  rw [u64_and _ _ (by omega) (by omega) hb.1 hb.2]
  rfl
theorem mk_lt (bits : Int) (x : Nat) (hx : x < 18446744073709551616) : mk bits x < 18446744073709551616 := Nat.lt_of_le_of_lt Nat.and_le_left hx

theorem Small.set {ws : List Nat} (h : Small ws) (k x : Nat) (hx : x < 18446744073709551616) : Small (ws.set k x) := by
  intro y hy
  rcases List.mem_or_eq_of_mem_set hy with hy | rfl
  · exact h y hy
  · exact hx
theorem Small.mask {ws : List Nat} (h : Small ws) (bits : Int) (n : Nat) : Small (maskL bits n ws) := by
  unfold maskL
  split
  · exact h
  · exact h.set _ _ (mk_lt _ _ (h.getD _))
theorem maskL_len (bits : Int) (n : Nat) (ws : List Nat) : (maskL bits n ws).length = ws.length := by unfold maskL; split <;> simp

theorem row_at {w : World} {q n : Nat} {ws : List Nat} (hrow : w.ownsRow 0 29 1 (.slice (some ⟨q, 0, none⟩) n n) n (nums ws)) (k : Nat) (hk : k < n) : w.cell? ⟨q, k, none⟩ = some (.int .u64 ((ws.getD k 0 : Nat) : Int)) := by
  have hl : ws.length = n := by have := hrow.1; simpa [nums] using this
  rw [hrow.cellAt k (by omega)]
  simp [nums, hl, hk]

set_option maxHeartbeats 400000 in
theorem mask_any (bits : Int) (q n : Nat) (ws : List Nat) (w : World) (hrow : w.ownsRow 0 29 1 (.slice (some ⟨q, 0, none⟩) n n) n (nums ws)) (hn0 : 1 ≤ n) (hn : n ≤ 512) (hs : Small ws) (hb0 : 0 ≤ bits) (hb1 : bits ≤ 40000) :
    Calls Ybaf.prog 8 #[.int .i64 bits, .slice (some ⟨q, 0, none⟩) n n] w fun e w' => e = .returned (.tuple #[]) ∧ w'.ownsRow 0 29 1 (.slice (some ⟨q, 0, none⟩) n n) n (nums (maskL bits n ws)) ∧ w.grownBy w' (some q) := by
  by_cases ht : bits % 64 = 0
  · have htb : ((bits % 64) != 0) = false := by rw [ht]; rfl
    have HR : Hid (w.ownsRow 0 29 1 (.slice (some ⟨q, 0, none⟩) n n) n (nums (maskL bits n ws))) := by
      show w.ownsRow _ _ _ _ _ _
      rw [maskL, if_pos ht]; exact hrow
    clear ht hrow
    go_enter Ybaf.func8, Ybaf.ntmps8
    go_wp2
    go_end0
    exact ⟨rfl, HR.out, World.grownBy.refl _ _⟩
  · have hcell := row_at hrow (n - 1) (by omega)
    have hfz := hrow.frozenAt (n - 1)
    have htb : ((bits % 64) != 0) = true := by rw [bne_iff_ne]; exact ht
    have hmk := (show Hid _ from and_mk bits (ws.getD (n - 1) 0) (hs.getD _))
    have HR : Hid _ := hrow.stored (n - 1) (.int .u64 ((mk bits (ws.getD (n - 1) 0) : Nat) : Int))
    have HM : Hid (maskL bits n ws = ws.set (n - 1) (mk bits (ws.getD (n - 1) 0))) := by show maskL _ _ _ = _; rw [maskL, if_neg ht]
    generalize ws.getD (n - 1) 0 = x at *
    clear hrow ht
    go_enter Ybaf.func8, Ybaf.ntmps8
    go_wp2
    rw [hmk.out]
    go_end0
    exact ⟨rfl, by rw [HM.out, ← set_nums]; exact HR.out.1, HR.out.2⟩

theorem owns_zero {w : World} {base : Nat} {e : TypeId} {size : Nat} {v : Value} {n : Nat} {xs : List Value} (h : w.ownsRow base e size v n xs) : w.ownsRow 0 e size v n xs := by
  refine ⟨h.1, ?_⟩
  rcases h.2 with h2 | ⟨g, cap, cur, hv, _, r⟩
  · exact Or.inl h2
  · exact Or.inr ⟨g, cap, cur, hv, Nat.zero_le _, r⟩
/-- A write into a block that was not there at the start. -/
theorem grown_fresh {a b c : World} {q : Nat} (h : a.grownBy b none) (k : b.grownBy c (some q)) (hq : a.heap.size ≤ q) : a.grownBy c none :=
  ⟨k.os.trans h.os, k.tape.trans h.tape, k.output.trans h.output, Nat.le_trans h.size k.size, fun i hi hne => (k.block i (Nat.lt_of_lt_of_le hi h.size) (by simp; omega)).trans (h.block i hi hne)⟩

/-- The words that 'zzs5140abuild' lays, behind k rounds. -/
def fill (n k len : Nat) (zs : List Nat) : List Nat := (List.range n).map (fun i => if i < k ∧ i < len then zs.getD i 0 else 0)
theorem fill_len (n k len : Nat) (zs : List Nat) : (fill n k len zs).length = n := by simp [fill]
theorem fill_zero (n len : Nat) (zs : List Nat) : nums (fill n 0 len zs) = List.replicate n (.int .u64 0) := by
  apply List.ext_getElem
  · simp [nums, fill]
  · intro i h1 h2; simp [nums, fill]
theorem fill_set (n k len : Nat) (zs : List Nat) (hk : k < len) : (fill n k len zs).set k (zs.getD k 0) = fill n (k + 1) len zs := by
  unfold fill
  apply List.ext_getElem
  · simp
  · intro i h1 h2
    simp only [List.getElem_set, List.getElem_map, List.getElem_range]
    by_cases e : k = i
    · subst e; simp [hk]
    · simp only [e, if_false]
      by_cases hi : i < k ∧ i < len
      · rw [if_pos hi, if_pos (by omega)]
      · rw [if_neg hi, if_neg (by omega)]
theorem fill_skip (n k len : Nat) (zs : List Nat) (hk : ¬ k < len) : fill n k len zs = fill n (k + 1) len zs := by
  unfold fill
  apply List.map_congr_left
  intro i _
  by_cases hi : i < k ∧ i < len
  · rw [if_pos hi, if_pos (by omega)]
  · rw [if_neg hi, if_neg (by omega)]
theorem fill_small (n k len : Nat) (zs : List Nat) (h : Small zs) : Small (fill n k len zs) := by
  intro x hx
  obtain ⟨i, _, rfl⟩ := List.mem_map.1 hx
  split
  · exact h.getD i
  · decide

def nOf (nb : Int) : Nat := 1 + (nb % 512).toNat
def bitsOf (nb tail : Int) : Int := (1 + nb % 512) * 64 - tail % 64
def hOf (hs : Int) : Int := 1 + hs % 64
def builtL (nb tail : Int) (len : Nat) (zs : List Nat) : List Nat := maskL (bitsOf nb tail) (nOf nb) (fill (nOf nb) (nOf nb) len zs)

theorem info29 : (Ybaf.prog.info? 29).map (fun i => (i.zero, i.size, i.bytes)) = some (some (.int .u64 0), 1, 8) := by kernel_rfl

def InNums (w : World) (ao : Option Addr) (len : Nat) (zs : List Nat) : Prop :=
  Small zs ∧ len ≤ 4611686018427387904 ∧ (0 < len → ∃ b off, ao = some ⟨b, off, none⟩ ∧ b < w.heap.size ∧ ∀ j, j < len → w.cell? ⟨b, off + j, none⟩ = some (.int .u64 ((zs.getD j 0 : Nat) : Int)))

set_option maxHeartbeats 1000000 in
theorem build_any (nb tail hs : Int) (ao : Option Addr) (len cap : Nat) (zs : List Nat) (w : World) (h1 : 0 ≤ nb) (h2 : nb ≤ 65535) (h3 : 0 ≤ tail) (h4 : tail ≤ 255) (h5 : 0 ≤ hs) (h6 : hs ≤ 255) (hin : InNums w ao len zs) :
    Calls Ybaf.prog 5 #[.int .u16 nb, .int .u8 tail, .int .u8 hs, .slice ao len cap] w fun e w' => ∃ p q, e = .returned (.pointer (some ⟨p, 0, none⟩)) ∧ Filt w' p q (nOf nb) (bitsOf nb tail) (hOf hs) (builtL nb tail len zs) ∧
      w.heap.size ≤ p ∧ w.heap.size ≤ q ∧ w.grownBy w' none := by
  obtain ⟨i0, hi, hz0, hz1, hz2⟩ := info_parts info29
  have Hin : Hid (InNums w ao len zs) := hin
  have hlen := hin.2.1
  clear hin
  have hN1 : 1 ≤ nOf nb ∧ nOf nb ≤ 512 := by unfold nOf; omega
  have hN' : (nOf nb : Int) = 1 + nb % 512 := by unfold nOf; omega
  have HB : Hid ((1 + nb % 512) * 64 - tail % 64 = bitsOf nb tail) := rfl
  have hB1 : 0 ≤ bitsOf nb tail ∧ bitsOf nb tail ≤ 40000 := by unfold bitsOf; omega
  have HH : Hid (1 + hs % 64 = hOf hs) := rfl
  have HL : Hid (builtL nb tail len zs = maskL (bitsOf nb tail) (nOf nb) (fill (nOf nb) (nOf nb) len zs)) := rfl
  generalize builtL nb tail len zs = BL at *
  generalize bitsOf nb tail = BI at *
  generalize hOf hs = HI at *
  generalize nOf nb = N at *
  go_enter Ybaf.func5, Ybaf.ntmps5
  go_wp2_with (at_make; refine wpList_make_full _ rfl _ _ 23 rfl w.heap.size 29 i0 (.int .u64 0) 1 Ybaf.underlying23 hi hz0 hz1 _ _ _ _ N rfl rfl (by omega) (by omega) ?b2 ?b3 (Nat.le_refl _) ?_)
  case b2 => rw [hz2]; omega
  case b3 => unfold maxLen; omega
  intro w0 hown0 hgrow0
  have hrow0 : w0.ownsRow 0 29 1 (.slice (some ⟨w.heap.size, 0, none⟩) N N) N (nums (fill N 0 len zs)) := by
    rw [fill_zero, ← toList_madeCells_one]
    have := owns_zero hown0
    simpa [Value.cells] using this
  clear hown0
  go_wp2
  go_loopw [13] (fun i wr => ∃ k : Nat, k ≤ N ∧ i = .int .i64 k ∧ wr.ownsRow 0 29 1 (.slice (some ⟨w.heap.size, 0, none⟩) N N) N (nums (fill N k len zs)) ∧ w.grownBy wr none) (fun i _ => N - (intOf i).toNat)
  case atStart => exact ⟨0, Nat.zero_le _, rfl, hrow0, hgrow0⟩
  case round =>
    obtain ⟨k, hk, rfl, hrow, hgr⟩ := hrel
    by_cases hlt : k < N
    · by_cases hkl : k < len
      · obtain ⟨b, off, rfl, hbs, hc⟩ := Hin.out.2.2 (by omega)
        have hck : wr.cell? ⟨b, off + k, none⟩ = some (.int .u64 ((zs.getD k 0 : Nat) : Int)) := hgr.cell (hc k hkl) (by simp)
        have hwc : ∃ v, wr.cell? ⟨w.heap.size, k, none⟩ = some v := ⟨_, row_at hrow k hlt⟩
        obtain ⟨vo, hvo⟩ := hwc
        have hfz := hrow.frozenAt k
        have HR : Hid _ := hrow.stored k (.int .u64 ((zs.getD k 0 : Nat) : Int))
        have HF : Hid _ := fill_set N k len zs hkl
        generalize zs.getD k 0 = x at *
        clear hrow hc hrow0 hgrow0
        go_wp2
        go_roundw
        case rel => exact ⟨k + 1, by omega, by go_num, by rw [← HF.out, ← set_nums]; exact HR.out.1, grown_fresh hgr HR.out.2 (Nat.le_refl _)⟩
        case measure => simp [intOf]; omega
      · have HF : Hid _ := fill_skip N k len zs hkl
        clear hrow0 hgrow0
        go_wp2
        go_roundw
        case rel => exact ⟨k + 1, by omega, by go_num, by rw [← HF.out]; exact hrow, hgr⟩
        case measure => simp [intOf]; omega
    · obtain rfl : k = N := by omega
      clear hrow0 hgrow0
      go_wp2_with fail
      rw [HB.out]
      refine (mask_any BI w.heap.size k _ _ hrow (by omega) (by omega) (fill_small _ _ _ _ Hin.out.1) hB1.1 hB1.2).mono ?_
      rintro e w2 ⟨rfl, hrow2, hg2⟩
      have hgw : w.grownBy w2 none := grown_fresh hgr hg2 (Nat.le_refl _)
      go_wp2
      go_ret
      rw [HH.out]
      refine ⟨_, _, rfl, ⟨?_, ?_⟩, hgw.size, Nat.le_refl _, grown_trans hgw (World.grownBy_alloc _ _ _)⟩
      · show (w2.heap.push _)[w2.heap.size]? = _
        rw [Array.getElem?_push, if_pos rfl]
      · rw [HL.out]; exact hrow2.alloc _
end Go.Proofs.YbulkdbksFmt

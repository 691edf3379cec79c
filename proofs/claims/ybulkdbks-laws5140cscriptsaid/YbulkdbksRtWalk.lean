import Derived.Test.YbulkdbksEnc
import Derived.Laws.AppendOwnNone
import Derived.Deep.RegionWith
import Derived.Deep.RegionHeld
namespace Go.Proofs.Ybulkdbks
open Go.RowKit

/-- 'append(out, xs...)', out the call's own, xs whatever slice that can be read (nil, empty or not). -/
theorem wpList_append_own_any {P : Program} {w : World} {ops : Array Oper} {rest : List Oper} {o : Oper} {a : Act} {Q : Exit → Act → World → Prop} (hgd : o.guard = none) (s x : Operand) (t : TypeId)
    (ho : o.op = .call { callee := .builtin .append, args := #[s, x], argTypes := #[t, t] })
    (base : Nat) (e : TypeId) (i : TypeInfo) (z : Value) (size bytes : Nat) (ht : P.underlying t = some (.slice e)) (hi : P.info? e = some i) (hz : i.zero = some z)
    (hsize : i.size = size) (hby : i.bytes = bytes) (hzs : z.cells.size = size) (hsz : 0 < size)
    (v : Value) (n : Nat) (xs : List Value) (hs : a.eval s = v) (hown : w.ownsRow base e size v n xs)
    (ao : Option Addr) (m c : Nat) (news : List Value) (hx : a.eval x = .slice ao m c) (hnone : ao = none → m = 0 ∧ c = 0) (hl : news.length = m * size) (hnews : ∀ ad, ao = some ad → ∀ j u, news[j]? = some u → w.cell? (ad.add j) = some u) (h1 : ∀ u ∈ news, u.oneCell' = true)
    (h63 : n + m ≤ maxLen) (hbytes : (n + m) * bytes ≤ 140737488355328) (hbase : base ≤ w.heap.size)
    (h : ∀ v' w', w'.ownsRow base e size v' (n + m) (xs ++ news) → w.grownBy w' v.ownBlock → wpList P ops Q rest (a.put o.dst v') w') : wpList P ops Q (o :: rest) a w := by
  cases ao with
  | some ad => exact wpList_append_own w hgd s x t ho base e i z size bytes ht hi hz hsize hby hzs hsz v n xs hs hown ad m c news hx hl (hnews ad rfl) h1 h63 hbytes hbase (fun v' w' a b _ => h v' w' a b)
  | none =>
    obtain ⟨rfl, rfl⟩ := hnone rfl
    have hnil : news = [] := List.eq_nil_of_length_eq_zero (by simpa using hl)
    subst hnil
    exact wpList_append_own_none hgd s x t ho base e i size ht hi v n xs hs hown hx (h v w (by simpa using hown) (World.grownBy.refl _ _))

def sizes (ks : List ByteArray) : Nat := (ks.map (·.size)).sum
theorem sizes_take (ks : List ByteArray) (k : Nat) (h : k < ks.length) : sizes (ks.take (k + 1)) = sizes (ks.take k) + (ks.getD k ByteArray.empty).size := by
  rw [List.take_succ_eq_append_getElem h]; unfold sizes; rw [List.map_append, List.sum_append]; simp [h]
theorem encs_take (ks : List ByteArray) (k : Nat) (h : k < ks.length) : encs (ks.take (k + 1)) = encs (ks.take k) ++ b4 (ks.getD k ByteArray.empty).size ++ (ks.getD k ByteArray.empty).data.toList := by
  rw [List.take_succ_eq_append_getElem h]; unfold encs; rw [List.flatMap_append]; simp [encK, h]
theorem encs_size (ks : List ByteArray) : (encs ks).length = 4 * ks.length + sizes ks := by
  induction ks with
  | nil => rfl
  | cons k r ih =>
    rw [encs_cons]
    have : k.data.toList.length = k.size := by simp
    simp only [List.length_append, ih, sizes, List.map_cons, List.sum_cons, b4, List.length_cons, List.length_nil, this]
    omega
theorem sizes_le (ks : List ByteArray) (k : Nat) : sizes (ks.take k) ≤ sizes ks := by
  unfold sizes
  rw [List.map_take]
  have := List.sum_append (l₁ := (ks.map (·.size)).take k) (l₂ := (ks.map (·.size)).drop k)
  rw [List.take_append_drop] at this
  omega

/-- What the walk is told of the keywords that came in. -/
def InStrs (w : World) (ao : Option Addr) (n : Nat) (ks : List ByteArray) : Prop :=
  ks.length = n ∧ (∀ k ∈ ks, k.size ≤ 140737488351232) ∧ (0 < n → ∃ b off, ao = some ⟨b, off, none⟩ ∧ b < w.heap.size ∧ ∀ j, j < n → w.cell? ⟨b, off + j, none⟩ = some (.string (ks.getD j ByteArray.empty)))
def InTail (w : World) (bo : Option Addr) (n cap : Nat) (l : List UInt8) : Prop :=
  l.length = n ∧ (bo = none → n = 0 ∧ cap = 0) ∧ (0 < n → ∃ b off, bo = some ⟨b, off, none⟩ ∧ b < w.heap.size ∧ ∀ j, j < n → w.cell? ⟨b, off + j, none⟩ = some (.int .u8 ((l.getD j 0).toNat : Int)))

theorem in_src {w w0 : World} {bo : Option Addr} {n cap : Nat} {l : List UInt8} (h : InTail w bo n cap l) (hb : Below w.heap.size w w0) :
    ∀ ad, bo = some ad → ∀ j u, (bc l)[j]? = some u → w0.cell? (ad.add j) = some u := by
  intro ad had j u hj
  have hlt : j < l.length := by
    have := (List.getElem?_eq_some_iff.1 hj).1
    simpa [bc] using this
  obtain ⟨b, off, e, hbs, hc⟩ := h.2.2 (by rw [← h.1]; omega)
  rw [e] at had
  obtain rfl := Option.some.inj had
  rw [Addr.add_lit, hb.cell hbs, hc j (by rw [← h.1]; exact hlt), ← hj]
  simp [bc, hlt]
theorem bc_one (l : List UInt8) : ∀ u ∈ bc l, u.oneCell' = true := by
  intro u hu
  obtain ⟨_, _, rfl⟩ := List.mem_map.1 hu
  rfl
theorem bc_append (a b : List UInt8) : bc a ++ bc b = bc (a ++ b) := by simp [bc]
theorem strCells_bc (s : ByteArray) : Lib.strCells s = bc s.data.toList := rfl

theorem ta34 (v : Value) (w : World) : (Instr.typeAssert (.iface 34 v) 30 34 true).run Yba.prog w = .ok (.tuple #[v, .bool true]) w := by kernel_rfl

theorem dec_new {w : World} {base g m cap : Nat} {l : List UInt8} (hm : l.length = m) (h : w.ownsRow base 5 1 (.slice (some ⟨g, 0, none⟩) m cap) m (bc l)) :
    Dec (w.alloc (.cells #[.slice (some ⟨g, 0, none⟩) m cap, .nilIface] 27)) w.heap.size g l := by
  subst hm
  have hgl : g < w.heap.size := (h.lt _ rfl).2
  have hcap : l.length ≤ cap ∧ cap ≤ maxLen := by
    rcases h.2 with ⟨h', _⟩ | ⟨g', cap', cur, h', _, hg, h1, h2, _⟩
    · simp at h'
    · simp only [Value.slice.injEq, Option.some.injEq, Addr.mk.injEq, and_true, true_and] at h'
      obtain ⟨rfl, rfl⟩ := h'
      exact ⟨h1, h2⟩
  refine ⟨0, cap, ?_, hcap.1, by have := hcap.2; unfold maxLen at this; omega, fun j hj => ?_⟩
  · show (w.heap.push _)[w.heap.size]? = _
    rw [Array.getElem?_push, if_pos rfl]
  · rw [Nat.zero_add, World.cell?_alloc_past _ _ _ hgl, h.cellAt j (by omega)]
    simp [bc, hj]

set_option maxHeartbeats 8000000 in
set_option maxRecDepth 100000 in
theorem rt_any (ao bo : Option Addr) (n ca lt cb : Nat) (ks : List ByteArray) (tail : List UInt8) (w : World) (hn : n ≤ 1024) (hlt : lt ≤ 4096) (hk : InStrs w ao n ks) (ht : InTail w bo lt cb tail) :
    Calls Yba.prog 4 #[.slice ao n ca, .slice bo lt cb] w fun e w' => e = .returned (.bool true) ∧ Below w.heap.size w w' := by
  obtain ⟨i0, hi, hz0, hz1, hz2⟩ := info_parts info5
  have HK : Hid _ := hk
  have HT : Hid _ := ht
  clear hk ht
  go_enter Yba.func4, Yba.ntmps4
  go_wp2
  go_loop [5, 6] (fun t i => ∃ k : Nat, k ≤ n ∧ i = .int .i64 k ∧ t = .int .i64 (sizes (ks.take k) : Nat) ∧ sizes (ks.take k) ≤ k * 65536 ∧ Hid (∀ s ∈ ks.take k, s.size ≤ 65536)) (fun _ i => n - (intOf i).toNat)
  case atStart => exact ⟨0, Nat.zero_le _, rfl, rfl, by simp [sizes], fun s hs => by simp at hs⟩
  case round =>
    obtain ⟨k, hk, rfl, rfl, hsum, hall⟩ := hrel
    by_cases hkn : k < n
    · obtain ⟨b, off, rfl, hbs, hc⟩ := HK.out.2.2 (by omega)
      have hkk : k < ks.length := by rw [HK.out.1]; exact hkn
      have hck := hc k hkn
      have HS : Hid _ := sizes_take ks k hkk
      have HTk : Hid (ks.take (k + 1) = ks.take k ++ [ks.getD k ByteArray.empty]) := by show _ = _; rw [List.take_succ_eq_append_getElem hkk]; simp [hkk]
      have hsz : (ks.getD k ByteArray.empty).size ≤ 140737488351232 := HK.out.2.1 _ (by simp [hkk])
      generalize ks.getD k ByteArray.empty = s at *
      generalize sizes (ks.take k) = T at *
      clear hc
      by_cases hbig : 65536 < s.size
      · go_wp2
        go_ret
        exact ⟨rfl, Below.refl _ _⟩
      · go_wp2
        go_round
        case rel =>
          refine ⟨k + 1, by omega, by go_num, by rw [HS.out]; go_num, by rw [HS.out]; omega, ?_⟩
          show ∀ s ∈ _, _
          rw [HTk.out]
          intro x hx
          rcases List.mem_append.1 hx with hx | hx
          · exact hall.out x hx
          · simp at hx; subst hx; omega
        case measure => simp [intOf]; omega
    · obtain rfl : k = n := by omega
      have e : ks.take k = ks := List.take_of_length_le (by rw [HK.out.1]; exact Nat.le_refl _)
      rw [e] at hsum hall ⊢
      by_cases htot : 1048576 < sizes ks
      · generalize sizes ks = T at *
        go_wp2
        go_ret
        exact ⟨rfl, Below.refl _ _⟩
      · have HSZ : Hid (sizes ks ≤ 1048576) := by show _ ≤ _; omega
        generalize sizes ks = T at hsum htot ⊢
        clear e hk hkn
        go_wp2_with fail
        refine (app32 k _ 0 [] w.heap.size _ (by omega) (World.ownsRow_nil _ _ _ _) (Nat.le_refl _) (by omega)).mono ?_
        rintro e w1 ⟨v1, rfl, hown1, hg1⟩
        have hb1 : Below w.heap.size w w1 := (Below.refl _ _).grown hg1 (Nat.le_refl _) (fun k h => by simp [Value.ownBlock] at h)
        clear hg1
        have h4 : (b4 k).length = 4 := rfl
        go_wp2
        go_loopw [7, 8] (fun v i wr => ∃ q : Nat, q ≤ k ∧ i = .int .i64 q ∧ wr.ownsRow w.heap.size 5 1 v (4 + (encs (ks.take q)).length) (bc (b4 k ++ encs (ks.take q))) ∧ Below w.heap.size w wr) (fun _ i _ => k - (intOf i).toNat)
        case atStart => exact ⟨0, Nat.zero_le _, rfl, by simpa [encs] using hown1, hb1⟩
        case round =>
          obtain ⟨q, hq, rfl, hown, hnx⟩ := hrel
          have hnz : w.heap.size ≤ wr.heap.size := hnx.size
          clear hown1 hb1
          by_cases hqk : q < k
          · obtain ⟨b, off, rfl, hbs, hc⟩ := HK.out.2.2 (by omega)
            have hkk : q < ks.length := by rw [HK.out.1]; exact hqk
            have hck : wr.cell? ⟨b, off + q, none⟩ = some (.string (ks.getD q ByteArray.empty)) := (hnx.cell (by exact hbs)).trans (hc q hqk)
            have HE : Hid _ := encs_take ks q hkk
            have hsz : (ks.getD q ByteArray.empty).size ≤ 65536 := hall.out _ (by simp [hkk])
            have hel : (encs (ks.take q)).length ≤ 2000000 := by
              rw [encs_size]
              have h1 := sizes_le ks q
              have h2 := HSZ.out
              have h3 : (ks.take q).length ≤ q := List.length_take_le _ _
              omega
            generalize ks.getD q ByteArray.empty = s at *
            generalize encs (ks.take q) = E at *
            clear hc
            have hqI : (q : Int) < (k : Int) := by omega
            go_wp2
            have hwr : IntKind.u32.wrap (s.size : Int) = (s.size : Int) := by rw [IntKind.wrap_u32']; omega
            have HCALL : Hid _ := app32 s.size _ (4 + E.length) (b4 k ++ E) w.heap.size wr.drew (by omega) hown hnz (by omega)
            go_region_held (fun w' => w'.cell? ⟨b, off + q, none⟩ = some (.string s)) (first | assumption | go_keep)
              ((go_at_call 10; refine Calls.mono HCALL.out ?_; rintro e w2 ⟨v2, rfl, hown2, hg2⟩; have hck2 : w2.cell? ⟨b, off + q, none⟩ = some (.string s) := hg2.cell hck (fun e => by have := (hown.lt b e.symm).1; omega)))
            have hb2 : Below w.heap.size w w2 := hnx.drew.grown hg2 hnz (fun j hj => (hown.lt j hj).1)
            have hnz2 : w.heap.size ≤ w2.heap.size := hb2.size
            clear HCALL hwr hg2 hck hnx
            go_wp2_with (at_builtin; refine Lib.wpList_append_own_string _ rfl (.tmp 64) (.tmp 68) 22 9 rfl w.heap.size 5 i0 Yba.underlying22 Yba.underlying9 hi hz0 hz1 hz2 _ _ _ rfl hown2 s rfl (by unfold maxLen; omega) (by omega) hnz2 ?_)
            intro v3 w3 hown3 hg3 _
            have hb3 : Below w.heap.size w w3 := hb2.grown hg3 hnz2 (fun j hj => (hown2.lt j hj).1)
            have hown3' : w3.ownsRow w.heap.size 5 1 v3 (4 + (E ++ b4 s.size ++ s.data.toList).length) (bc (b4 k ++ (E ++ b4 s.size ++ s.data.toList))) := by
              have e1 : 4 + (E ++ b4 s.size ++ s.data.toList).length = 4 + E.length + 4 + s.size := by
                have h4 : (b4 s.size).length = 4 := rfl
                have h5 : s.data.toList.length = s.size := by simp
                simp only [List.length_append, h4, h5]; omega
              rw [e1]
              rw [strCells_bc, bc_append] at hown3
              simpa using hown3
            clear hown2 hown3 hg3 hb2 hown
            go_wp2
            go_roundw
            case rel => exact ⟨q + 1, by omega, by go_num, by rw [HE.out]; exact hown3', hb3⟩
            case measure => simp [intOf]; omega
          · obtain rfl : q = k := by omega
            have e : ks.take q = ks := List.take_of_length_le (by rw [HK.out.1]; exact Nat.le_refl _)
            rw [e] at hown
            have hel : (encs ks).length ≤ 2000000 := by
              rw [encs_size]
              have h2 := HSZ.out
              have h3 := HK.out.1
              omega
            clear e
            go_wp2_with (at_builtin; refine wpList_append_own_any rfl (.tmp 70) (.tmp 71) 22 rfl w.heap.size 5 i0 (.int .u8 0) 1 1 Yba.underlying22 hi hz0 hz1 hz2 rfl (by decide) _ _ _ rfl hown bo lt cb (bc tail) rfl HT.out.2.1 ?k1 (in_src HT.out hnx) (bc_one tail) ?k2 ?k3 hnz ?_)
            case k1 => rw [bc_len, HT.out.1]; omega
            case k2 => unfold maxLen; omega
            case k3 => omega
            intro v3 w3 hown3 hg3
            have hb3 : Below w.heap.size w w3 := hnx.grown hg3 hnz (fun j hj => (hown.lt j hj).1)
            rw [bc_append] at hown3
            clear hg3 hnx hown
            obtain ⟨g, cg, rfl⟩ : ∃ g cg, v3 = .slice (some ⟨g, 0, none⟩) (4 + (encs ks).length + lt) cg := by
              rcases hown3.2 with ⟨_, h⟩ | ⟨g, cg, _, h, _⟩
              · omega
              · exact ⟨g, cg, h⟩
            have hgl : g < w3.heap.size := (hown3.lt _ rfl).2
            have hgB : w.heap.size ≤ g := (hown3.lt _ rfl).1
            have hDec : Dec (w3.alloc (.cells #[.slice (some ⟨g, 0, none⟩) (4 + (encs ks).length + lt) cg, .nilIface] 27)) w3.heap.size g (b4 q ++ (encs ks ++ tail)) := dec_new (by
              have h4 : (b4 q).length = 4 := rfl
              have h5 := HT.out.1
              simp only [List.length_append, h4, h5]; omega) (by simpa using hown3)
            have hw4 : Below w.heap.size w (w3.alloc (.cells #[.slice (some ⟨g, 0, none⟩) (4 + (encs ks).length + lt) cg, .nilIface] 27)) := hb3.alloc hb3.size _
            clear hown3
            by_cases hq0 : q = 0
            · subst hq0
              have hks0 : ks = [] := List.eq_nil_of_length_eq_zero HK.out.1
              rw [hks0] at hDec
              have hDec' : Dec (w3.alloc (.cells #[.slice (some ⟨g, 0, none⟩) (4 + (encs ks).length + lt) cg, .nilIface] 27)) w3.heap.size g (b4 0 ++ tail) := by
                rw [hks0]; simpa [encs] using hDec
              clear hks0 hDec
              go_wp2_with fail
              refine (search_zero w3.heap.size g tail _ hDec' (by omega)).mono ?_
              rintro e w5 ⟨rfl, ⟨o5, c5, x5, hD5, hcell5⟩, hg5⟩
              have hb5 : Below w.heap.size w w5 := hw4.grown hg5 hw4.size (fun j hj => by cases hj; exact hb3.size)
              clear hw4 hDec' hg5
              have e5 := HT.out.1
              rw [e5] at hD5
              clear e5
              have cD0 : w5.cell? ⟨w3.heap.size, 0, none⟩ = some (.slice (some ⟨g, o5, none⟩) lt c5) := by rw [cell_of_row w5 _ 0 _ _ _ hD5]; rfl
              have cD1 : w5.cell? ⟨w3.heap.size, 1, none⟩ = some (.iface 107 x5) := by rw [cell_of_row w5 _ 1 _ _ _ hD5]; rfl
              have hD5l : w3.heap.size < w5.heap.size := (Array.getElem?_eq_some_iff.1 hD5).1
              have HC5 : Hid _ := hcell5
              clear hD5 hcell5
              have ta := ta34
              go_wp2_with fail
              refine (beq_any _ _ lt _ _ tail _ HT.out.1 (by omega) ?b1 ?b2).mono ?_
              case b1 =>
                intro h0
                have hl5 : g < w5.heap.size := World.block_lt_of_cell? w5 _ (HC5.out 0 h0)
                exact ⟨g, o5, rfl, fun j hj => (World.cell?_alloc_past _ _ _ hl5).trans (HC5.out j hj)⟩
              case b2 =>
                intro h0
                obtain ⟨b, off, e, hbs, hc⟩ := HT.out.2.2 (by rw [← HT.out.1]; exact h0)
                exact ⟨b, off, e, fun j hj => ((hb5.alloc hb5.size _).cell hbs).trans (hc j (by rw [← HT.out.1]; exact hj))⟩
              rintro e w6 ⟨rfl, hg6⟩
              have hb6 : Below w.heap.size w w6 := (hb5.alloc hb5.size _).grown hg6 (by have := hb5.size; simp; omega) (fun k h => by cases h)
              have d1 : w6.cell? ⟨w3.heap.size, 1, none⟩ = some (.iface 107 x5) := hg6.cell ((World.cell?_alloc_past _ _ _ hD5l).trans cD1) (by simp)
              have d2 : w6.cell? ⟨w5.heap.size, 0, none⟩ = some (.slice none 0 0) := hg6.cell (by go_simp) (by simp)
              have q32 : ∀ (w : World) (a : Option Addr) (n c n' c' : Nat), (binOp .eql 32 (.slice a n c) (.slice none n' c')).run Yba.prog w = .ok (.bool a.isNone) w := fun w a n c n' c' => Lib.run_eql_slice_nil w _ _ a n c n' c' Yba.underlying32
              clear cD0 cD1 hg6 hb5 ta HC5
              go_wp2
              go_ret
              exact ⟨rfl, hb6⟩
            · have hks' : ∀ k ∈ ks, k.size < 4294967296 := fun k hk => by have := hall.out k hk; omega
              go_wp2_with fail
              refine (search_some w3.heap.size g q ks tail _ HK.out.1 hDec (by omega) (by simp; omega) (by omega) hn hks').mono ?_
              rintro e w5 ⟨qs, rfl, hqs, hrow5, hd5, hg5⟩
              have hb5 : Below w.heap.size w w5 := hw4.grown hg5 hw4.size (fun j hj => by cases hj; exact hb3.size)
              clear hw4 hDec hg5 hks'
              obtain ⟨o5, c5, hD5, hl5, hc5, hcell5⟩ := hd5
              have e5 := HT.out.1
              rw [e5] at hD5
              clear e5
              have cD0 : w5.cell? ⟨w3.heap.size, 0, none⟩ = some (.slice (some ⟨g, o5, none⟩) lt c5) := by rw [cell_of_row w5 _ 0 _ _ _ hD5]; rfl
              have cD1 : w5.cell? ⟨w3.heap.size, 1, none⟩ = some .nilIface := by rw [cell_of_row w5 _ 1 _ _ _ hD5]; rfl
              have hD5l : w3.heap.size < w5.heap.size := (Array.getElem?_eq_some_iff.1 hD5).1
              have HC5 : Hid _ := hcell5
              clear hD5 hcell5
              have ta := ta34
              go_wp2_with fail
              refine (beq_any _ _ lt _ _ tail _ HT.out.1 (by omega) ?b1 ?b2).mono ?_
              case b1 =>
                intro h0
                have hl5 : g < w5.heap.size := World.block_lt_of_cell? w5 _ (HC5.out 0 h0)
                exact ⟨g, o5, rfl, fun j hj => (World.cell?_alloc_past _ _ _ hl5).trans (HC5.out j hj)⟩
              case b2 =>
                intro h0
                obtain ⟨b, off, e, hbs, hc⟩ := HT.out.2.2 (by rw [← HT.out.1]; exact h0)
                exact ⟨b, off, e, fun j hj => ((hb5.alloc hb5.size _).cell hbs).trans (hc j (by rw [← HT.out.1]; exact hj))⟩
              rintro e w6 ⟨rfl, hg6⟩
              have hb6 : Below w.heap.size w w6 := (hb5.alloc hb5.size _).grown hg6 (by have := hb5.size; simp; omega) (fun k h => by cases h)
              have d1 : w6.cell? ⟨w3.heap.size, 1, none⟩ = some .nilIface := hg6.cell ((World.cell?_alloc_past _ _ _ hD5l).trans cD1) (by simp)
              have d2 : w6.cell? ⟨w5.heap.size, 0, none⟩ = some (.slice (some ⟨qs, 0, none⟩) q q) := hg6.cell (by go_simp) (by simp)
              have hrow6 : w6.ownsRow 0 9 1 (.slice (some ⟨qs, 0, none⟩) q q) q (fillS q q ks) := (hrow5.alloc _).kept hg6 (Or.inr (by simp [Value.ownBlock]))
              have hq0' : ((q : Int) == 0) = false := by simp; omega
              clear hrow5 cD0 cD1 hg6 hb5 ta HC5
              go_wp2
              go_loopw [13] (fun i wz => ∃ m : Nat, m ≤ q ∧ i = .int .i64 m ∧ ∃ nq, wz = w6.drewN nq) (fun i _ => q - (intOf i).toNat)
              case atStart => exact ⟨0, Nat.zero_le _, rfl, 0, rfl⟩
              case round =>
                obtain ⟨m, hm, rfl, nq, rfl⟩ := hrel
                by_cases hmq : m < q
                · obtain ⟨b, off, rfl, hbs, hc⟩ := HK.out.2.2 (by omega)
                  have k1 : w6.cell? ⟨b, off + m, none⟩ = some (.string (ks.getD m ByteArray.empty)) := (hb6.cell hbs).trans (hc m hmq)
                  have k2 : w6.cell? ⟨qs, m, none⟩ = some (.string (ks.getD m ByteArray.empty)) := by
                    rw [hrow6.cellAt m (by omega)]; simp [fillS, hmq]
                  clear hc
                  generalize ks.getD m ByteArray.empty = s at *
                  have hmI : (m : Int) < (q : Int) := by omega
                  go_wp2
                  go_quiet (fail)
                  go_wp2
                  go_roundw
                  case rel => exact ⟨m + 1, by omega, by go_num, _, rfl⟩
                  case measure => simp [intOf]; omega
                · go_wp2
                  go_ret
                  exact ⟨rfl, below_drewN hb6 _⟩
end Go.Proofs.Ybulkdbks

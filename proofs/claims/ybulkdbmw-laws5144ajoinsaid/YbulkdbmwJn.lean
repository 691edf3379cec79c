import Derived.Test.YbulkdbmwAd2
import Derived.Test.YbulkdbmwMt
namespace Go.Proofs.Ybulkdbmw
open Go Go.RowKit Go.Sort Go.Shelf Go.Lib

def nm8 (i : Nat) : List UInt8 := [UInt8.ofNat (97 + i)]
def ix8 (s : List UInt8) : Nat := (s.headD 0).toNat - 97
theorem ix_nm (i : Nat) (hi : i < 8) : ix8 (nm8 i) = i := by
  unfold ix8 nm8
  simp
  omega

/-- The names in the order in which they are met. -/
structure Nms (G : Ent) (is : List Nat) : Prop where
  lt : ∀ i ∈ is, i < 8
  nd : is.Nodup
  mem : ∀ i, i < 8 → (i ∈ is ↔ (G i).isSome = true)

theorem nms_of {w : World} {mb n : Nat} {D : DataW Value} {G : Ent} (ho : w.ownsMap Yba.prog 9 vE mb n D) (hD : CatD w D G) (ss : List (List UInt8)) (hp : ss.Perm (strKeys D)) : ∃ is, Nms G is ∧ ss.mergeSort (fun x y => decide (x ≤ y)) = is.map nm8 := by
  obtain ⟨es, rfl, hpw, hkl⟩ := ho.entries law9
  have hps : (ss.mergeSort (fun x y => decide (x ≤ y))).Perm (strKeys (.map es)) := (List.mergeSort_perm ss _).trans hp
  have hk : ∀ p ∈ es, ∃ i, i < 8 ∧ p.1 = ky i := fun p hpe => hD.ks p.1 (List.any_eq_true.2 ⟨p, hpe, WideAt.sameKey_self (hkl p hpe)⟩)
  have hs : ∀ s ∈ ss.mergeSort (fun x y => decide (x ≤ y)), s = nm8 (ix8 s) ∧ ix8 s < 8 := fun s hs => by
    have := hps.mem_iff.1 hs
    obtain ⟨p, hpe, rfl⟩ := List.mem_map.1 this
    obtain ⟨i, hi, e⟩ := hk p hpe
    rw [e]
    have : strOf (ky i) = nm8 i := rfl
    rw [this, ix_nm i hi]
    exact ⟨rfl, hi⟩
  have hnd : (ss.mergeSort (fun x y => decide (x ≤ y))).Nodup := by
    refine hps.nodup_iff.2 ?_
    show (es.map fun p => strOf p.1).Nodup
    refine List.pairwise_map.2 (hpw.imp_of_mem (fun {a b} ha hb hne e => hne ?_))
    obtain ⟨i, hi, e1⟩ := hk a ha
    obtain ⟨j, hj, e2⟩ := hk b hb
    rw [e1, e2] at e ⊢
    have : nm8 i = nm8 j := e
    have := congrArg ix8 this
    rw [ix_nm i hi, ix_nm j hj] at this
    rw [this]
  generalize ss.mergeSort (fun x y => decide (x ≤ y)) = S at *
  have hmap : S = (S.map ix8).map nm8 := by
    rw [List.map_map]
    conv => lhs; rw [← List.map_id S]
    exact List.map_congr_left (fun s hs' => by simpa using (hs s hs').1)
  refine ⟨S.map ix8, ⟨fun i hi => ?_, ?_, fun i hi => ?_⟩, hmap⟩
  · obtain ⟨s, hs', rfl⟩ := List.mem_map.1 hi
    exact (hs s hs').2
  · rw [hmap] at hnd
    exact List.Pairwise.of_map nm8 (fun a b hne e => hne (by rw [e])) hnd
  · rw [← hD.hs i hi]
    constructor
    · intro hm
      obtain ⟨s, hs', e⟩ := List.mem_map.1 hm
      have := hps.mem_iff.1 hs'
      obtain ⟨p, hpe, e2⟩ := List.mem_map.1 this
      obtain ⟨j, hj, e3⟩ := hk p hpe
      refine List.any_eq_true.2 ⟨p, hpe, ?_⟩
      have : strOf (ky j) = nm8 j := rfl
      rw [e3, this] at e2
      rw [← e2, ix_nm j hj] at e
      rw [e3, e]
      exact WideAt.sameKey_self (isKy i)
    · intro hh
      obtain ⟨p, hpe, hsk⟩ := List.any_eq_true.1 hh
      have e := WideAt.sameKey_eq hsk
      refine List.mem_map.2 ⟨nm8 i, hps.mem_iff.2 (List.mem_map.2 ⟨p, hpe, by rw [e]; rfl⟩), ix_nm i hi⟩

/-- slices.Sorted(maps.Keys(o)). -/
theorem names_u (ob n : Nat) (G : Ent) (w : World) (hc : Cat w ob n G) : Calls Yba.prog 8 #[.func (.func 19) #[] #[.pointer (some ⟨w.heap.size, 0, none⟩)]] (w.alloc (.cells #[.map (some ob)] 30)) fun e w' => ∃ (v : Value) (is : List Nat), e = .returned v ∧ Nms G is ∧
      w'.ownsRow (w.heap.size + 1) 9 1 v is.length (is.map fun i => .string (nmB i)) ∧ w.grownBy w' none := by
  obtain ⟨D, ho, hD⟩ := hc
  have h8 := cnt_le G 8
  have hsz := hD.sz
  refine (sorted_u ob n D vE w ho (by unfold maxLen; omega) (by omega)).mono ?_
  rintro e w' ⟨v, ss, rfl, hp, hrow, _, hb⟩
  obtain ⟨is, hN, he⟩ := nms_of ho hD ss hp
  have hl : ss.length = is.length := by
    have := congrArg List.length he
    simpa using this
  refine ⟨v, is, rfl, hN, ?_, ?_⟩
  · rw [he, hl, List.map_map, show (w.alloc (.cells #[.map (some ob)] 30)).heap.size = w.heap.size + 1 by simp] at hrow
    exact hrow
  · have g1 : (w.alloc (.cells #[.map (some ob)] 30)).grownBy w' none := ⟨hb.os, hb.tape, hb.output, hb.size, fun k hk _ => hb.block k hk⟩
    exact gtr (gA _ _) g1

/-- What join makes of c. -/
def jn (F G : Ent) : Ent := fun i => match G i with
  | none => F i
  | some b => some (meetF (F i) b)
def jk (F G : Ent) (is : List Nat) : Ent := fun i => if i ∈ is then jn F G i else F i

theorem jk_all {F G : Ent} {is : List Nat} (h : Nms G is) (i : Nat) (hi : i < 8) : jk F G is i = jn F G i := by
  unfold jk
  by_cases hm : i ∈ is
  · rw [if_pos hm]
  · rw [if_neg hm]
    unfold jn
    cases hG : G i with
    | none => rfl
    | some b => exact absurd ((h.mem i hi).2 (by rw [hG]; rfl)) hm

theorem meetF_len {c : Option (Hd × List Int)} {b : Hd × List Int} (h1 : ∀ x, c = some x → x.2.length ≤ 256) (h2 : b.2.length ≤ 256) : (meetF c b).2.length ≤ 600 := by
  unfold meetF
  cases c with
  | none => dsimp only; omega
  | some x =>
    have := h1 x rfl
    dsimp only
    split
    · have := mgl_len b.1 x.1 b.2 x.2; unfold mg; dsimp only; omega
    · have := mgl_len x.1 b.1 x.2 b.2; unfold mg; dsimp only; omega

theorem jk_bd {F G : Ent} (is : List Nat) (hF : ∀ i x, F i = some x → x.2.length ≤ 256) (hG : ∀ i x, G i = some x → x.2.length ≤ 256) : Bd (jk F G is) := fun i x h => by
  unfold jk at h
  split at h
  · unfold jn at h
    cases hGi : G i with
    | none => rw [hGi] at h; have := hF i x h; omega
    | some b =>
      rw [hGi] at h
      cases h
      exact meetF_len (hF i) (hG i b hGi)
  · have := hF i x h; omega

theorem jk_step {F G : Ent} (is : List Nat) (k i : Nat) (hk : is[k]? = some i) (b : Hd × List Int) (hG : G i = some b) : jk F G (is.take (k + 1)) = upd (jk F G (is.take k)) i (meetF (F i) b) := by
  funext j
  unfold jk upd
  rw [List.take_add_one, hk]
  by_cases e : j = i
  · subst e
    simp [jn, hG]
  · simp [e]
theorem jk_fresh {F G : Ent} {is : List Nat} (nd : is.Nodup) (k i : Nat) (hk : is[k]? = some i) : jk F G (is.take k) i = F i := by
  unfold jk
  rw [if_neg]
  intro hm
  obtain ⟨hk', e⟩ := List.getElem?_eq_some_iff.1 hk
  obtain ⟨j, hj, e2⟩ := List.mem_take_iff_getElem.1 hm
  exact List.pairwise_iff_getElem.1 nd j k (by omega) hk' (by omega) (by rw [e2, e])
theorem meetF_nm {F : Ent} {i : Nat} {b : Hd × List Int} (h1 : ∀ x, F i = some x → x.1.nm = nmB i) (h2 : b.1.nm = nmB i) : (meetF (F i) b).1.nm = nmB i := by
  unfold meetF
  cases hF : F i with
  | none => exact h2
  | some x =>
    dsimp only
    split
    · exact h2
    · exact h1 x hF

theorem Cat.nm {w : World} {mb n : Nat} {F : Ent} (h : Cat w mb n F) {i : Nat} (hi : i < 8) {x : Hd × List Int} (hx : F i = some x) : x.1.nm = nmB i := by
  obtain ⟨D, _, h2⟩ := h
  obtain ⟨pd, _, _, h3⟩ := h2.at_ i hi x.1 x.2 hx
  exact h3

theorem look_s {w : World} {ops : Array Oper} {rest : List Oper} {o : Oper} {a : Act} {Q : Exit → Act → World → Prop} (hg : o.guard = none) (m x : Operand) (hop : o.op = Op.lookup 30 m x false) (mb n : Nat) (F : Ent) (i : Nat) (hi : i < 8) (h : Hd) (l : List Int) (hF : F i = some (h, l))
    (hm : a.eval m = .map (some mb)) (hx : a.eval x = .string (nmB i)) (hc : Cat w mb n F)
    (hK : ∀ pd, Pl w pd l → wpList Yba.prog ops Q rest (a.put o.dst (Hd.val h pd)) w) : wpList Yba.prog ops Q (o :: rest) a w :=
  look_u w hg m x hop mb n F i hi hm hx hc (fun hd l' pd hp hl => by
    rcases hl with ⟨e, _⟩ | ⟨e, _, _⟩
    · rw [hF] at e; cases e; exact hK pd hp
    · rw [hF] at e; cases e)

theorem LV.len {F : Ent} {i : Nat} {h : Hd} {l : List Int} (hv : LV F i h l) (hB : Bd F) : l.length ≤ 600 := by
  rcases hv with ⟨e, _⟩ | ⟨_, _, rfl⟩
  · exact hB i _ e
  · simp

theorem eq_q (b o : Hd) (p q : Value) (lb lo : List Int) (w : World) (hp : Pl w p lb) (hq : Pl w q lo) (h1 : lb.length < 100000) (h2 : lo.length < 100000) :
    Calls Yba.prog 11 #[b.val p, o.val q] w fun e w' => ∃ x : Bool, e = .returned (.bool x) ∧ (x = true ↔ b = o ∧ lb = lo) ∧ w.grownBy w' none :=
  (eq_u b o p q lb lo w hp hq h1 h2).mono fun _ _ h => ⟨_, h.1, by simp, h.2⟩
theorem zzeq_q (b o : Hd) (p q : Value) (lb lo : List Int) (w : World) (hp : Pl w p lb) (hq : Pl w q lo) (h1 : lb.length < 100000) (h2 : lo.length < 100000) :
    Calls Yba.prog 7 #[b.val p, o.val q] w fun e w' => ∃ x : Bool, e = .returned (.bool x) ∧ (x = true ↔ b = o ∧ lb = lo) ∧ w.grownBy w' none :=
  (zzeq_u b o p q lb lo w hp hq h1 h2).mono fun _ _ h => ⟨_, h.1, by simp, h.2⟩

theorem row_len {w : World} {base E sz n : Nat} {v : Value} {cs : List Value} (h : w.ownsRow base E sz v n cs) : ∃ a c, v = .slice a n c := by
  rcases h.2 with ⟨e, e2⟩ | ⟨gg, cp, cur, e, _⟩
  · exact ⟨none, 0, by rw [e, e2]⟩
  · exact ⟨_, _, e⟩

set_option maxHeartbeats 6400000 in
set_option maxRecDepth 100000 in
theorem join_u (mb ob n n' : Nat) (F G : Ent) (sv mv : Value) (w : World) (hc : Cat w mb n F) (ho : Cat w ob n' G) (hmo : mb ≠ ob) (hF : ∀ i x, F i = some x → x.2.length ≤ 256) (hG : ∀ i x, G i = some x → x.2.length ≤ 256) (hn : n < 50000) :
    Calls Yba.prog 5 #[sv, .map (some mb), .map (some ob), mv] w fun e w' => e = .returned (.tuple #[]) ∧ (∃ H, Cat w' mb (n + 8) H ∧ ∀ i, i < 8 → H i = jn F G i) ∧ Cat w' ob n' G ∧ w.grownBy w' (some mb) := by
  have HK : Hid (Calls Yba.prog 9 #[.map (some ob)] w fun e w' => e = .returned (.func (.func 19) #[] #[.pointer (some ⟨w.heap.size, 0, none⟩)]) ∧ w' = w.alloc (.cells #[.map (some ob)] 30)) := keys_u (some ob) w
  have HS : Hid _ := names_u ob n' G w ho
  have hmb := hc.lt
  go_enter Yba.func5, Yba.ntmps5
  go_upto_region 1 with (first
    | (go_at_call 9; refine Calls.mono HK.out ?_; rintro e w1 ⟨rfl, rfl⟩)
    | (go_at_call 8; refine Calls.mono HS.out ?_; rintro e w3 ⟨v3, is, rfl, hN, hrow, g3⟩; obtain ⟨va, vc, rfl⟩ := row_len hrow))
  have hcell : ∀ k i, is[k]? = some i → ∃ b, va = some ⟨b, 0, none⟩ ∧ w.heap.size ≤ b ∧ b < w3.heap.size ∧ w3.cell? ⟨b, k, none⟩ = some (.string (nmB i)) := fun k i hk => by
    rcases hrow.2 with ⟨e, e2⟩ | ⟨gg, cp, cur, e, hb, hg, _⟩
    · rw [List.length_eq_zero_iff.1 e2] at hk; simp at hk
    · cases e
      refine ⟨gg, rfl, by omega, (Array.getElem?_eq_some_iff.1 hg).1, ?_⟩
      have := World.ownsRow.cells hrow (g := gg) rfl k (.string (nmB i)) (by rw [List.getElem?_map, hk]; rfl)
      rwa [show (⟨gg, 0, none⟩ : Addr).add k = ⟨gg, k, none⟩ by unfold Addr.add; split <;> simp_all] at this
  have C3 := hc.f0 g3
  have O3 := ho.f0 g3
  have hnc := C3.nc
  have HX : Hid (∀ wr, w3.grownBy wr (some mb) → Cat wr ob n' G) := fun wr g => O3.fr g (by simp; omega) hnc
  have hlen8 : is.length ≤ 8 := by
    have := List.Nodup.length_le_of_subset hN.nd (l₂ := List.range 8) (fun i hi => List.mem_range.2 (hN.lt i hi))
    simpa using this
  have HC : Hid (∀ k i, is[k]? = some i → ∃ b, va = some ⟨b, 0, none⟩ ∧ w.heap.size ≤ b ∧ b < w3.heap.size ∧ w3.cell? ⟨b, k, none⟩ = some (.string (nmB i))) := hcell
  have HN : Hid (Nms G is) := hN
  have HF : Hid (∀ i x, F i = some x → x.2.length ≤ 256) := hF
  have HG : Hid (∀ i x, G i = some x → x.2.length ≤ 256) := hG
  have HC0 : Hid (Cat w mb n F) := hc
  clear hcell hN hrow hnc O3 ho HK HS hF hG hc
  generalize hLn : is.length = L at *
  go_loopw [15] (fun v15 wr => ∃ k : Nat, v15 = .int .i64 k ∧ k ≤ L ∧ Cat wr mb (n + k) (jk F G (is.take k)) ∧ w3.grownBy wr (some mb)) (fun v15 _ => L - (intOf v15).toNat)
  case atStart => exact ⟨0, rfl, Nat.zero_le _, (by rw [show jk F G (is.take 0) = F from by funext i; simp [jk]]; exact C3), grf _ _⟩
  case round =>
    obtain ⟨k, rfl, hk, C, g⟩ := hrel
    by_cases hlt : k < L
    · obtain ⟨i, hik⟩ : ∃ i, is[k]? = some i := ⟨is[k], List.getElem?_eq_getElem (by omega)⟩
      have hi8 : i < 8 := HN.out.lt i (List.mem_of_getElem? hik)
      obtain ⟨b, rfl, hb1, hb2, hcb⟩ := HC.out k i hik
      have cx : wr.cell? ⟨b, k, none⟩ = some (.string (nmB i)) := (World.cell?_of_block (g.block b hb2 (by simp; omega))).trans hcb
      have O := HX.out wr g
      obtain ⟨x, hGi⟩ := Option.isSome_iff_exists.1 ((HN.out.mem i hi8).1 (List.mem_of_getElem? hik))
      have hfr := jk_fresh (F := F) (G := G) HN.out.nd k i hik
      have hst := jk_step (F := F) (G := G) is k i hik x hGi
      have hbd := jk_bd (F := F) (G := G) (is.take k) HF.out HG.out
      have hFi := HF.out i
      have hxl := HG.out i x hGi
      clear hcb HC HX HN
      have hxn := O.nm hi8 hGi
      have hzn : (meetF (F i) x).1.nm = nmB i := meetF_nm (fun y hy => HC0.out.nm hi8 hy) hxn
      have hzl : (meetF (F i) x).2.length ≤ 600 := meetF_len hFi hxl
      generalize jk F G (is.take k) = H at *
      obtain ⟨hx, lx⟩ := x
      have HM : Hid (∀ pd, Pl wr pd lx → Calls Yba.prog 10 #[.map (some mb), hx.val pd] wr fun e w' => ∃ v, e = .returned ((meetF (F i) (hx, lx)).1.val v) ∧ Pl w' v (meetF (F i) (hx, lx)).2 ∧ wr.grownBy w' none) := fun pd hp => by
        have := meet_u mb (n + k) H i hi8 hx pd lx wr C hp hxn (by dsimp only at hxl; omega) (fun y hy => by have := hbd i y hy; omega)
        rw [hfr] at this
        exact this
      generalize hz : meetF (F i) (hx, lx) = z at *
      obtain ⟨z1, z2⟩ := z
      dsimp only at hzn hzl HM
      have HQ : Hid (Cat wr mb (n + k) H ∧ w3.grownBy wr (some mb)) := ⟨C, g⟩
      have hnw : H i = F i := hfr
      clear C g hxn hFi hxl hfr
      go_upto_region 4 with (first
        | (refine look_s rfl _ _ rfl ob n' G i hi8 hx lx hGi rfl rfl O ?_; intro pd hpd; go_frame)
        | (go_at_call 10; refine Calls.mono (HM.out pd hpd) ?_; rintro e w4 ⟨v4, rfl, hp4, g4⟩)
        | (refine al_u rfl rfl ?_; intro w5 x5 g5 s5)
        | (refine st_u rfl _ _ rfl _ rfl z1 v4 rfl x5 hp4.sl ?_; intro w6 x6 g6 s6))
      have g46 : w4.grownBy w6 none := gnew g5 g6 (fun k e => by cases e; exact Nat.le_refl _)
      have g06 : wr.grownBy w6 none := gtr g4 g46
      have hp6 := hp4.f0 g46
      have C6 := HQ.out.1.f0 g06
      have G6 := gtr HQ.out.2 (g06.but _)
      clear O HM HQ g5 g6 g46 g06 g4 hp4 x5
      go_upto_if 29 with (first
        | (refine ld_u rfl _ rfl _ rfl x6 ?_; go_frame)
        | (refine look_u _ rfl _ _ rfl mb (n + k) H i hi8 rfl rfl C6 ?_; intro hd2 ld2 pd2 hpd2 hlv2; go_frame)
        | (go_at_call 11; refine Calls.mono (eq_q z1 hd2 v4 pd2 z2 ld2 _ hp6 hpd2 (by omega) (by have := hlv2.len hbd; omega)) ?_; rintro e w7 ⟨xq, rfl, hxq, g7⟩))
      have C7 := C6.f0 g7
      have G7 := gtr G6 (g7.but _)
      have hp7 := hp6.f0 g7
      have x7 := x6.f0 g7
      clear C6 G6 hp6 x6 g7 hpd2
      cases xq with
      | true =>
        have heq := hxq.1 rfl
        have hHi : H i = some (z1, z2) := by
          obtain ⟨e1, e2⟩ := heq
          rcases hlv2 with ⟨e, _⟩ | ⟨_, e, _⟩
          · rw [e, e1, e2]
          · exfalso
            rw [e1, e] at hzn
            exact absurd (congrArg ByteArray.size hzn) (by show ¬ (0 : Nat) = 1; omega)
        have hst' : jk F G (is.take (k + 1)) = H := by rw [hst]; exact upd_same H i _ hHi
        clear hxq
        go_wp2_with fail
        go_roundw
        case rel => exact ⟨k + 1, by go_num, by omega, by rw [hst']; exact C7.mono (by omega), G7⟩
        case measure => simp [intOf]; omega
      | false =>
        have HA : Hid (Calls Yba.prog 12 #[.map (some mb), z1.val v4, mv] w7 fun e w' => ∃ v, e = .returned v ∧ Cat w' mb (n + k + 1) (upd H i (z1, z2)) ∧ w7.grownBy w' (some mb)) := admit_u mb (n + k) H i hi8 z1 v4 mv z2 w7 C7 hbd hp7 hzl hzn (by omega)
        clear hxq
        go_wp2_with (first
          | (refine ld_u rfl _ rfl _ rfl x7 ?_; go_frame)
          | (go_at_call 12; refine Calls.mono HA.out ?_; rintro e w8 ⟨v8, rfl, C8, g8⟩))
        go_roundw
        case rel => exact ⟨k + 1, by go_num, by omega, by rw [hst]; exact C8, gtr G7 g8⟩
        case measure => simp [intOf]; omega
    · obtain rfl : k = L := by omega
      have hend : ∀ i, i < 8 → jk F G (is.take k) i = jn F G i := fun i hi => by
        rw [List.take_of_length_le (by omega)]
        exact jk_all HN.out i hi
      have O := HX.out wr g
      go_wp2_with fail
      go_end0
      exact ⟨rfl, ⟨_, C.mono (by omega), hend⟩, O, gtr (g3.but _) g⟩
end Go.Proofs.Ybulkdbmw

import Derived.Test.YbulkdbmwCat
namespace Go.Proofs.Ybulkdbmw
open Go Go.RowKit Go.Sort Go.Shelf Go.Lib

def notIn (h : Hd) (l : List Int) : List Int := l.filter (fun x => !decide (x ∈ h.hs))
def listedOf (h : Hd) (l : List Int) : List Int := if h.rm then notIn h l else l

theorem notIn_len (h : Hd) (l : List Int) : (notIn h l).length ≤ l.length := List.length_filter_le _ _
theorem listed_len (h : Hd) (l : List Int) : (listedOf h l).length ≤ l.length := by
  unfold listedOf
  split
  · exact notIn_len h l
  · exact Nat.le_refl _

theorem notIn_step (h : Hd) (l : List Int) (k : Nat) (hk : k < l.length) : notIn h (l.take (k + 1)) = notIn h (l.take k) ++ (if l[k]! ∈ h.hs then [] else [l[k]!]) := by
  unfold notIn
  rw [List.take_add_one, List.filter_append, List.getElem?_eq_getElem hk, getElem!_pos l k hk]
  by_cases hh : l[k] ∈ h.hs <;> simp [hh]

theorem notIn_lenk (h : Hd) (l : List Int) (k : Nat) : (notIn h (l.take k)).length ≤ l.length := Nat.le_trans (notIn_len h _) (by simp; omega)

/-- The holders' cells. -/
def Hc (w : World) (b : Nat) (h : Hd) : Prop := b < w.heap.size ∧ ∀ j, j < h.hs.length → w.cell? ⟨b, 3 + j, none⟩ = some (encU h.hs[j]!)

theorem Hc.fr {w w' : World} {b : Nat} {h : Hd} {r : Option Nat} (c : Hc w b h) (g : w.grownBy w' r) (hr : some b ≠ r) : Hc w' b h :=
  ⟨Nat.lt_of_lt_of_le c.1 g.size, fun j hj => (World.cell?_of_block (g.block b c.1 hr)).trans (c.2 j hj)⟩

theorem Hc.new (w : World) (h : Hd) (pd : Value) (T : TypeId) : Hc (w.alloc (.cells #[.string h.nm, .int .u64 h.sz, .int .u64 h.vw, .int .u32 h.h0, .int .u32 h.h1, .int .u32 h.h2, .int .u32 h.h3, .int .u32 h.h4, .int .u32 h.h5, .int .u32 h.tg, .int .u64 h.ti, .int .u64 h.tc, .int .u64 h.av, .int .u64 h.sq, .bool h.rm, pd] T)) w.heap.size h := by
  refine ⟨by simp, fun j hj => ct rfl ?_⟩
  match j, hj with
  | 0, _ => rfl
  | 1, _ => rfl
  | 2, _ => rfl
  | 3, _ => rfl
  | 4, _ => rfl
  | 5, _ => rfl
  | n + 6, hj => simp [Hd.hs] at hj; omega

set_option maxHeartbeats 1600000 in
set_option maxRecDepth 100000 in
theorem listed_u (h : Hd) (pd : Value) (l : List Int) (w : World) (hp : Pl w pd l) (hb : l.length < 100000) : Calls Yba.prog 22 #[h.val pd] w fun e w' => ∃ v, e = .returned v ∧ Pl w' v (listedOf h l) ∧ w.grownBy w' none := by
  have HL : Hid (∀ v wz, Pl wz v (notIn h l) → h.rm = true → Pl wz v (listedOf h l)) := fun v wz hh e => by unfold listedOf; rw [if_pos e]; exact hh
  have HL0 : Hid (h.rm = false → listedOf h l = l) := fun e => by unfold listedOf; simp [e]
  have HN := fun k (hk : k < l.length) => notIn_step h l k hk
  have HNl := notIn_lenk h l
  have HC0 := Hc.new w h pd 39
  have HCt : Hid (∀ wz x, Hc wz w.heap.size h → Calls Yba.prog 35 #[.slice (some ⟨w.heap.size, 3, none⟩) 6 6, .int .u32 x] wz fun e w' => e = .returned (.bool (decide (x ∈ h.hs))) ∧ w' = wz) := fun wz x hz => contains_u w.heap.size 3 6 h.hs x wz (by simp [Hd.hs]) hz.2
  simp only [Hd.val]
  cases hrm : h.rm with
  | false =>
    have HE : Hid (listedOf h l = l) := HL0.out hrm
    have HP : Hid (Pl w pd l) := hp
    clear hp HC0 HN HNl HCt
    go_enter Yba.func22, Yba.ntmps22
    go_wp2
    go_ret
    exact ⟨_, rfl, by rw [HE.out]; exact HP.out.f0 (gA _ _), gA _ _⟩
  | true =>
    rw [hrm] at HC0
    have HE : Hid (∀ v wz, Pl wz v (notIn h l) → Pl wz v (listedOf h l)) := fun v wz hh => HL.out v wz hh hrm
    have HC : Hid (Hc (w.alloc (.cells #[.string h.nm, .int .u64 h.sz, .int .u64 h.vw, .int .u32 h.h0, .int .u32 h.h1, .int .u32 h.h2, .int .u32 h.h3, .int .u32 h.h4, .int .u32 h.h5, .int .u32 h.tg, .int .u64 h.ti, .int .u64 h.tc, .int .u64 h.av, .int .u64 h.sq, .bool true, pd] 39)) w.heap.size h) := HC0
    clear HL HL0 hrm HC0
    rcases hp with ⟨rfl, rfl⟩ | ⟨b, off, cap, rfl, hc, hbb, hd⟩
    · go_enter Yba.func22, Yba.ntmps22
      go_wp2
      refine wp_loop_rounds 1 ?_
      rw [rounds_succ]
      go_wp2
      go_ret
      exact ⟨_, rfl, HE.out _ _ (Pl.nil _), gA _ _⟩
    · have HD : Hid (∀ wz : World, w.grownBy wz none → ∀ j, j < l.length → wz.cell? ⟨b, off + j, none⟩ = some (encU l[j]!)) := fun wz g j hj => (World.cell?_of_block (g.block b hbb (by simp))).trans (hd j hj)
      have HN' : Hid (∀ k, k < l.length → notIn h (l.take (k + 1)) = notIn h (l.take k) ++ (if l[k]! ∈ h.hs then [] else [l[k]!])) := HN
      have HNl' : Hid (∀ k, (notIn h (l.take k)).length ≤ l.length) := HNl
      clear hd HN HNl
      generalize hn : l.length = n at *
      go_enter Yba.func22, Yba.ntmps22
      go_wp2
      go_loopw [14, 3] (fun vi vo wr => ∃ k : Nat, vi = .int .i64 k ∧ k ≤ n ∧ Ow wr (w.heap.size + 1) vo (notIn h (l.take k)) ∧ w.grownBy wr none ∧ Hc wr w.heap.size h ∧ w.heap.size + 1 ≤ wr.heap.size) (fun vi _ _ => n - (intOf vi).toNat)
      case atStart => exact ⟨0, rfl, Nat.zero_le _, Ow.nil _ _, gA _ _, HC.out, by simp⟩
      case round =>
        obtain ⟨k, rfl, hk, ho, hg, hcc, hzz⟩ := hrel
        by_cases hlt : k < n
        · have cx := HD.out wr hg k hlt
          have HK : Hid _ := HN'.out k hlt
          have HCk : Hid (Calls Yba.prog 35 #[.slice (some ⟨w.heap.size, 3, none⟩) 6 6, encU l[k]!] wr fun e w' => e = .returned (.bool (decide (l[k]! ∈ h.hs))) ∧ w' = wr) := HCt.out wr l[k]! hcc
          have HO : Hid (Ow wr (w.heap.size + 1) u3 (notIn h (l.take k))) := ho
          have HG : Hid (w.grownBy wr none) := hg
          have HCC : Hid (Hc wr w.heap.size h) := hcc
          clear ho hg hcc
          generalize hx : l[k]! = x at *
          by_cases hin : x ∈ h.hs
          · have hdd : decide (x ∈ h.hs) = true := by simp [hin]
            rw [hdd] at HCk
            go_wp2_with (go_at_call 35; refine Calls.mono HCk.out ?_; rintro e wr ⟨rfl, rfl⟩)
            go_roundw
            case rel => exact ⟨k + 1, by go_num, by omega, by rw [HK.out, if_pos hin, List.append_nil]; exact HO.out, HG.out, HCC.out, hzz⟩
            case measure => simp [intOf]; omega
          · have hdd : decide (x ∈ h.hs) = false := by simp [hin]
            rw [hdd] at HCk
            go_wp2_with (first
              | (go_at_call 35; refine Calls.mono HCk.out ?_; rintro e wr ⟨rfl, rfl⟩)
              | (at_builtin; refine app_u rfl (.tmp 23) (.tmp 25) rfl (w.heap.size + 1) u3 _ _ [x] rfl rfl (HO.out.f0 (gA _ _)) (Or.inr ⟨wr.heap.size, 0, 1, rfl, Nat.le_refl _, by simp, fun j hj => ct rfl (by cases (by simpa using hj : j = 0); rfl)⟩) (by have := HNl'.out k; simp; omega) (by simp; omega) ?_; intro v2 w2 ho2 g2 hob2))
            have g02 := gnew (gtr HG.out (gA _ _)) g2 (fun j hj => by have := hob2 j hj; omega)
            have HC2 : Hc w2 w.heap.size h := (HCC.out.fr (gA _ _) (by simp)).fr g2 (fun e => by have := hob2 _ e.symm; omega)
            have hz2 : w.heap.size + 1 ≤ w2.heap.size := Nat.le_trans hzz (Nat.le_trans (gA wr _).size g2.size)
            have hO2 : Ow w2 (w.heap.size + 1) v2 (notIn h (l.take (k + 1))) := by rw [HK.out, if_neg hin]; exact ho2
            clear HO HG HCC g2 hob2 ho2
            go_wp2
            go_roundw
            case rel => exact ⟨k + 1, by go_num, by omega, hO2, g02, HC2, hz2⟩
            case measure => simp [intOf]; omega
        · obtain rfl : k = n := by omega
          have HO : Hid (Pl wr u3 (notIn h l)) := by show Pl _ _ _; have := ho.pl; rw [← hn, List.take_length] at this; exact this
          have HG : Hid (w.grownBy wr none) := hg
          clear ho hg
          go_wp2
          go_ret
          exact ⟨_, rfl, HE.out _ _ HO.out, HG.out⟩

theorem mem_step (hs : List Int) (x : Int) (j : Nat) (hj : j < hs.length) : decide (x ∈ hs.take (j + 1)) = (decide (hs[j]! = x) || decide (x ∈ hs.take j)) := by
  rw [List.take_add_one, List.getElem?_eq_getElem hj, getElem!_pos hs j hj, Bool.eq_iff_iff]
  simp only [Option.toList_some, List.mem_append, List.mem_singleton, decide_eq_true_eq, Bool.or_eq_true]
  constructor
  · rintro (h | h)
    · exact Or.inr h
    · exact Or.inl h.symm
  · rintro (h | h)
    · exact Or.inr h.symm
    · exact Or.inl h

set_option maxHeartbeats 1600000 in
set_option maxRecDepth 100000 in
theorem zzlisted_u (h : Hd) (pd : Value) (l : List Int) (w : World) (hp : Pl w pd l) (hb : l.length < 100000) : Calls Yba.prog 14 #[h.val pd] w fun e w' => ∃ v, e = .returned v ∧ Pl w' v (notIn h l) ∧ w.grownBy w' none := by
  have HN := fun k (hk : k < l.length) => notIn_step h l k hk
  have HNl := notIn_lenk h l
  have HC0 := Hc.new w h pd 39
  have HS : Hid (∀ x j, j < 6 → decide (x ∈ h.hs.take (j + 1)) = (decide (h.hs[j]! = x) || decide (x ∈ h.hs.take j))) := fun x j hj => mem_step h.hs x j hj
  have H6 : Hid (h.hs.take 6 = h.hs) := rfl
  simp only [Hd.val]
  have HC : Hid (Hc (w.alloc (.cells #[.string h.nm, .int .u64 h.sz, .int .u64 h.vw, .int .u32 h.h0, .int .u32 h.h1, .int .u32 h.h2, .int .u32 h.h3, .int .u32 h.h4, .int .u32 h.h5, .int .u32 h.tg, .int .u64 h.ti, .int .u64 h.tc, .int .u64 h.av, .int .u64 h.sq, .bool h.rm, pd] 39)) w.heap.size h) := HC0
  clear HC0
  rcases hp with ⟨rfl, rfl⟩ | ⟨b, off, cap, rfl, hc, hbb, hd⟩
  · go_enter Yba.func14, Yba.ntmps14
    go_wp2
    refine wp_loop_rounds 1 ?_
    rw [rounds_succ]
    go_wp2
    go_ret
    exact ⟨_, rfl, Pl.nil _, gA _ _⟩
  · have HD : Hid (∀ wz : World, w.grownBy wz none → ∀ j, j < l.length → wz.cell? ⟨b, off + j, none⟩ = some (encU l[j]!)) := fun wz g j hj => (World.cell?_of_block (g.block b hbb (by simp))).trans (hd j hj)
    have HN' : Hid (∀ k, k < l.length → notIn h (l.take (k + 1)) = notIn h (l.take k) ++ (if l[k]! ∈ h.hs then [] else [l[k]!])) := HN
    have HNl' : Hid (∀ k, (notIn h (l.take k)).length ≤ l.length) := HNl
    clear hd HN HNl
    generalize hn : l.length = n at *
    go_enter Yba.func14, Yba.ntmps14
    go_wp2
    go_loopw [4, 3] (fun vi vo wr => ∃ k : Nat, vi = .int .i64 k ∧ k ≤ n ∧ Ow wr (w.heap.size + 1) vo (notIn h (l.take k)) ∧ w.grownBy wr none ∧ Hc wr w.heap.size h ∧ w.heap.size + 1 ≤ wr.heap.size ∧ wr.cell? ⟨w.heap.size, 15, none⟩ = some (.slice (some ⟨b, off, none⟩) n cap)) (fun vi _ _ => n - (intOf vi).toNat)
    case atStart => exact ⟨0, rfl, Nat.zero_le _, Ow.nil _ _, gA _ _, HC.out, by simp, ct rfl rfl⟩
    case round =>
      obtain ⟨k, rfl, hk, ho, hg, hcc, hzz, cp⟩ := hrel
      by_cases hlt : k < n
      · have cx := HD.out wr hg k hlt
        have HK : Hid _ := HN'.out k hlt
        have HO : Hid (Ow wr (w.heap.size + 1) u3 (notIn h (l.take k))) := ho
        have HG : Hid (w.grownBy wr none) := hg
        have HCC : Hid (Hc wr w.heap.size h) := hcc
        clear ho hg hcc
        generalize hx : l[k]! = x at *
        obtain ⟨wo, hwo⟩ : ∃ wo : World, wo = wr := ⟨_, rfl⟩
        go_wp2
        go_loopw [7, 6] (fun vj vb wi => ∃ j : Nat, vj = .int .i64 j ∧ j ≤ 6 ∧ vb = .bool (decide (x ∈ h.hs.take j)) ∧ wi = wo) (fun vj _ _ => 6 - (intOf vj).toNat)
        case atStart => exact ⟨0, rfl, Nat.zero_le _, by simp, hwo.symm⟩
        case round =>
          obtain ⟨j, rfl, hj, rfl, rfl⟩ := hrel
          subst hwo
          by_cases hj6 : j < 6
          · have cj := HCC.out.2 j hj6
            have hj6I : (j : Int) < 6 := by omega
            have hst := HS.out x j hj6
            generalize h.hs[j]! = y at *
            by_cases hxy : y = x
            · go_wp2
              go_roundw
              case rel => exact ⟨j + 1, by go_num, by omega, by rw [hst]; simp [hxy], by trivial⟩
              case measure => simp [intOf]; omega
            · go_wp2
              go_roundw
              case rel => exact ⟨j + 1, by go_num, by omega, by rw [hst]; simp [hxy], by trivial⟩
              case measure => simp [intOf]; omega
          · obtain rfl : j = 6 := by omega
            rw [H6.out]
            by_cases hin : x ∈ h.hs
            · have hdd : decide (x ∈ h.hs) = true := by simp [hin]
              rw [hdd]
              go_wp2
              go_roundw
              case rel => exact ⟨k + 1, by go_num, by omega, by rw [HK.out, if_pos hin, List.append_nil]; exact HO.out, HG.out, HCC.out, hzz, cp⟩
              case measure => simp [intOf]; omega
            · have hdd : decide (x ∈ h.hs) = false := by simp [hin]
              rw [hdd]
              go_wp2_with (at_builtin; refine app_u rfl (.tmp 32) (.tmp 34) rfl (w.heap.size + 1) u3 _ _ [x] rfl rfl (HO.out.f0 (gA _ _)) (Or.inr ⟨wr.heap.size, 0, 1, rfl, Nat.le_refl _, by simp, fun j hj => ct rfl (by cases (by simpa using hj : j = 0); rfl)⟩) (by have := HNl'.out k; simp; omega) (by simp; omega) ?_; intro v2 w2 ho2 g2 hob2)
              have g02 := gnew (gtr HG.out (gA _ _)) g2 (fun j hj => by have := hob2 j hj; omega)
              have HC2 : Hc w2 w.heap.size h := (HCC.out.fr (gA _ _) (by simp)).fr g2 (fun e => by have := hob2 _ e.symm; omega)
              have hz2 : w.heap.size + 1 ≤ w2.heap.size := Nat.le_trans hzz (Nat.le_trans (gA wr _).size g2.size)
              have hO2 : Ow w2 (w.heap.size + 1) v2 (notIn h (l.take (k + 1))) := by rw [HK.out, if_neg hin]; exact ho2
              have cp2 : w2.cell? ⟨w.heap.size, 15, none⟩ = some (.slice (some ⟨b, off, none⟩) n cap) := (World.cell?_of_block (g2.block w.heap.size (by simp; omega) (fun e => by have := hob2 _ e.symm; omega))).trans ((World.cell?_of_block ((gA wr _).block w.heap.size (by omega) (by simp))).trans cp)
              clear HO HG HCC g2 hob2 ho2
              go_wp2
              go_roundw
              case rel => exact ⟨k + 1, by go_num, by omega, hO2, g02, HC2, hz2, cp2⟩
              case measure => simp [intOf]; omega
      · obtain rfl : k = n := by omega
        have HO : Hid (Pl wr u3 (notIn h l)) := by show Pl _ _ _; have := ho.pl; rw [← hn, List.take_length] at this; exact this
        have HG : Hid (w.grownBy wr none) := hg
        clear ho hg
        go_wp2
        go_ret
        exact ⟨_, rfl, HO.out, HG.out⟩
end Go.Proofs.Ybulkdbmw

import Derived.Test.YbulkdbmwSw2
namespace Go.Proofs.Ybulkdbmw
open Go Go.RowKit Go.Sort Go.Shelf Go.Lib

set_option maxHeartbeats 1600000 in
set_option maxRecDepth 100000 in
theorem listed_u2 (h : Hd) (pd : Value) (l : List Int) (w : World) (hp : Pl w pd l) (hb : l.length < 100000) : Calls Yba.prog 22 #[h.val pd] w fun e w' => ∃ v, e = .returned v ∧ Pl w' v (listedOf h l) ∧ w.grownBy w' none ∧ (∀ k, v.ownBlock = some k → pd.ownBlock = some k ∨ ∃ cs, w'.heap[k]? = some (.cells cs 31 (0, 0))) := by
  have HL : Hid (∀ v wz, Pl wz v (notIn h l) → h.rm = true → Pl wz v (listedOf h l)) := fun v wz hh e => by unfold listedOf; rw [if_pos e]; exact hh
  have HL0 : Hid (h.rm = false → listedOf h l = l) := fun e => by unfold listedOf; simp [e]
  have HN := fun k (hk : k < l.length) => notIn_step h l k hk
  have HNl := notIn_lenk h l
  have HC0 := Hc.new w h pd 39
  have HCt : Hid (∀ wz x, Hc wz w.heap.size h → Calls Yba.prog 35 #[.slice (some ⟨w.heap.size, 3, none⟩) 6 6, .int .u32 x] wz fun e w' => e = .returned (.bool (decide (x ∈ h.hs))) ∧ w' = wz) := fun wz x hz => contains_u w.heap.size 3 6 h.hs x wz (by simp [Hd.hs]) hz.2
  simp only [Hd.val]
  cases hrm : h.rm with
  | false =>
    have HE : Hid (listedOf h l = l) := HL0.out hrm
    have HP : Hid (Pl w pd l) := hp
    clear hp HC0 HN HNl HCt
    go_enter Yba.func22, Yba.ntmps22
    go_wp2
    go_ret
    exact ⟨_, rfl, by rw [HE.out]; exact HP.out.f0 (gA _ _), gA _ _, fun k hk => Or.inl hk⟩
  | true =>
    rw [hrm] at HC0
    have HE : Hid (∀ v wz, Pl wz v (notIn h l) → Pl wz v (listedOf h l)) := fun v wz hh => HL.out v wz hh hrm
    have HC : Hid (Hc (w.alloc (.cells #[.string h.nm, .int .u64 h.sz, .int .u64 h.vw, .int .u32 h.h0, .int .u32 h.h1, .int .u32 h.h2, .int .u32 h.h3, .int .u32 h.h4, .int .u32 h.h5, .int .u32 h.tg, .int .u64 h.ti, .int .u64 h.tc, .int .u64 h.av, .int .u64 h.sq, .bool true, pd] 39)) w.heap.size h) := HC0
    clear HL HL0 hrm HC0
    rcases hp with ⟨rfl, rfl⟩ | ⟨b, off, cap, rfl, hc, hbb, hd⟩
    · go_enter Yba.func22, Yba.ntmps22
      go_wp2
      refine wp_loop_rounds 1 ?_
      rw [rounds_succ]
      go_wp2
      go_ret
      exact ⟨_, rfl, HE.out _ _ (Pl.nil _), gA _ _, fun k hk => by cases hk⟩
    · have HD : Hid (∀ wz : World, w.grownBy wz none → ∀ j, j < l.length → wz.cell? ⟨b, off + j, none⟩ = some (encU l[j]!)) := fun wz g j hj => (World.cell?_of_block (g.block b hbb (by simp))).trans (hd j hj)
      have HN' : Hid (∀ k, k < l.length → notIn h (l.take (k + 1)) = notIn h (l.take k) ++ (if l[k]! ∈ h.hs then [] else [l[k]!])) := HN
      have HNl' : Hid (∀ k, (notIn h (l.take k)).length ≤ l.length) := HNl
      clear hd HN HNl
      generalize hn : l.length = n at *
      go_enter Yba.func22, Yba.ntmps22
      go_wp2
      go_loopw [14, 3] (fun vi vo wr => ∃ k : Nat, vi = .int .i64 k ∧ k ≤ n ∧ Ow wr (w.heap.size + 1) vo (notIn h (l.take k)) ∧ w.grownBy wr none ∧ Hc wr w.heap.size h ∧ w.heap.size + 1 ≤ wr.heap.size) (fun vi _ _ => n - (intOf vi).toNat)
      case atStart => exact ⟨0, rfl, Nat.zero_le _, Ow.nil _ _, gA _ _, HC.out, by simp⟩
      case round =>
        obtain ⟨k, rfl, hk, ho, hg, hcc, hzz⟩ := hrel
        by_cases hlt : k < n
        · have cx := HD.out wr hg k hlt
          have HK : Hid _ := HN'.out k hlt
          have HCk : Hid (Calls Yba.prog 35 #[.slice (some ⟨w.heap.size, 3, none⟩) 6 6, encU l[k]!] wr fun e w' => e = .returned (.bool (decide (l[k]! ∈ h.hs))) ∧ w' = wr) := HCt.out wr l[k]! hcc
          have HO : Hid (Ow wr (w.heap.size + 1) u3 (notIn h (l.take k))) := ho
          have HG : Hid (w.grownBy wr none) := hg
          have HCC : Hid (Hc wr w.heap.size h) := hcc
          clear ho hg hcc
          generalize hx : l[k]! = x at *
          by_cases hin : x ∈ h.hs
          · have hdd : decide (x ∈ h.hs) = true := by simp [hin]
            rw [hdd] at HCk
            go_wp2_with (go_at_call 35; refine Calls.mono HCk.out ?_; rintro e wr ⟨rfl, rfl⟩)
            go_roundw
            case rel => exact ⟨k + 1, by go_num, by omega, by rw [HK.out, if_pos hin, List.append_nil]; exact HO.out, HG.out, HCC.out, hzz⟩
            case measure => simp [intOf]; omega
          · have hdd : decide (x ∈ h.hs) = false := by simp [hin]
            rw [hdd] at HCk
            go_wp2_with (first
              | (go_at_call 35; refine Calls.mono HCk.out ?_; rintro e wr ⟨rfl, rfl⟩)
              | (at_builtin; refine app_u rfl (.tmp 23) (.tmp 25) rfl (w.heap.size + 1) u3 _ _ [x] rfl rfl (HO.out.f0 (gA _ _)) (Or.inr ⟨wr.heap.size, 0, 1, rfl, Nat.le_refl _, by simp, fun j hj => ct rfl (by cases (by simpa using hj : j = 0); rfl)⟩) (by have := HNl'.out k; simp; omega) (by simp; omega) ?_; intro v2 w2 ho2 g2 hob2))
            have g02 := gnew (gtr HG.out (gA _ _)) g2 (fun j hj => by have := hob2 j hj; omega)
            have HC2 : Hc w2 w.heap.size h := (HCC.out.fr (gA _ _) (by simp)).fr g2 (fun e => by have := hob2 _ e.symm; omega)
            have hz2 : w.heap.size + 1 ≤ w2.heap.size := Nat.le_trans hzz (Nat.le_trans (gA wr _).size g2.size)
            have hO2 : Ow w2 (w.heap.size + 1) v2 (notIn h (l.take (k + 1))) := by rw [HK.out, if_neg hin]; exact ho2
            clear HO HG HCC g2 hob2 ho2
            go_wp2
            go_roundw
            case rel => exact ⟨k + 1, by go_num, by omega, hO2, g02, HC2, hz2⟩
            case measure => simp [intOf]; omega
        · obtain rfl : k = n := by omega
          have HO : Hid (Pl wr u3 (notIn h l)) := by show Pl _ _ _; have := ho.pl; rw [← hn, List.take_length] at this; exact this
          have HG : Hid (w.grownBy wr none) := hg
          have HT : Hid (∀ k, u3.ownBlock = some k → ∃ cs, wr.heap[k]? = some (.cells cs 31 (0, 0))) := fun k hk => by
            rcases ho.2 with ⟨e, _⟩ | ⟨gg, cp, cur, e, _, hg', _⟩
            · rw [e] at hk; cases hk
            · rw [e] at hk; cases hk; exact ⟨cur, hg'⟩
          clear ho hg
          go_wp2
          go_ret
          exact ⟨_, rfl, HE.out _ _ HO.out, HG.out, fun k hk => Or.inr (HT.out k hk)⟩


/-- A range under way; the lists as they lay in w0. -/
def CatQ (w w0 : World) (mb r n : Nat) (F : Ent) (c : Nat) : Prop := ∃ D left, w.ranges Yba.prog 9 vE mb r n D left c ∧ CatD w0 D F

theorem CatQ.left_eq {w w0 : World} {mb r n c : Nat} {F : Ent} (h : CatQ w w0 mb r n F c) : w.rangeLeft mb r = c := by obtain ⟨D, left, h1, h2⟩ := h; exact h1.left_eq
theorem CatQ.lt {w w0 : World} {mb r n c : Nat} {F : Ent} (h : CatQ w w0 mb r n F c) : r < w.heap.size := by obtain ⟨D, left, h1, h2⟩ := h; exact h1.lt
theorem CatQ.fr {w w' w0 : World} {mb r n c : Nat} {F : Ent} {q : Option Nat} (h : CatQ w w0 mb r n F c) (g : w.grownBy w' q) (h1 : some mb ≠ q) (h2 : some r ≠ q) : CatQ w' w0 mb r n F c := by
  obtain ⟨D, left, k1, k2⟩ := h
  exact ⟨D, left, k1.kept g h1 h2, k2⟩
theorem CatQ.f0 {w w' w0 : World} {mb r n c : Nat} {F : Ent} (h : CatQ w w0 mb r n F c) (g : w.grownBy w' none) : CatQ w' w0 mb r n F c := h.fr g (by simp) (by simp)
theorem CatQ.cat {w w0 : World} {mb r n c : Nat} {F : Ent} (h : CatQ w w0 mb r n F c) (g : w0.grownBy w none) : Cat w mb n F := by obtain ⟨D, left, h1, h2⟩ := h; exact ⟨D, h1.owns, h2.fr g (fun _ e => by cases e)⟩

section
variable (w : World) {ops : Array Oper} {rest : List Oper} {o : Oper} {a : Act} {Q : Exit → Act → World → Prop}
theorem range_q (hg : o.guard = none) (m : Operand) (hop : o.op = Op.range 30 m) (w0 : World) (mb n : Nat) (F : Ent)
    (hm : a.eval m = .map (some mb)) (hc : Cat w0 mb n F) (g0 : w0.grownBy w none)
    (hK : ∀ w', CatQ w' w0 mb w.heap.size n F (cnt F 8) → w.grownBy w' none → w'.heap.size = w.heap.size + 1 → wpList Yba.prog ops Q rest (a.put o.dst (.pointer (some ⟨w.heap.size, 0, none⟩))) w') : wpList Yba.prog ops Q (o :: rest) a w := by
  obtain ⟨D, h1, h2⟩ := hc
  refine wpList_range_own w hg m 30 hop 9 39 law9 Yba.underlying30 vE mb n D hm (h1.kept g0 (by simp)) (fun w' hr g hsz => ?_)
  rw [h2.sz] at hr
  exact hK w' ⟨D, _, hr, h2⟩ g hsz

theorem next_q (hg : o.guard = none) (it : Operand) (hop : o.op = Op.next it false) (w0 : World) (mb r n c : Nat) (F : Ent)
    (hit : a.eval it = .pointer (some ⟨r, 0, none⟩)) (h : CatQ w w0 mb r n F c)
    (hDone : c = 0 → wpList Yba.prog ops Q rest (a.put o.dst (.tuple #[.bool false])) w)
    (hMore : ∀ (i : Nat) (hd : Hd) (l : List Int) (pd : Value) (w' : World) (c' : Nat), i < 8 → F i = some (hd, l) → Pl w0 pd l → hd.nm = nmB i → CatQ w' w0 mb r n F c' → c' < c → w.grownBy w' (some r) → w'.heap.size = w.heap.size →
      (Instr.entry (.pointer (some ⟨r, 0, none⟩))).run Yba.prog w' = .ok (.tuple #[.string (nmB i), Hd.val hd pd]) w' → wpList Yba.prog ops Q rest (a.put o.dst (.tuple #[.bool true, .string (nmB i), Hd.val hd pd])) w') :
    wpList Yba.prog ops Q (o :: rest) a w := by
  obtain ⟨D, left, h1, h2⟩ := h
  refine wpList_next_ranges (α := ByteArray) (β := Hd × Value) w hg it hop 9 law9 vE Value.string (fun c => c.1.val c.2) (fun key kl hkey => by obtain ⟨x, hx, _⟩ := key_inv' Yba.underlying9 hkey; exact ⟨x, hx⟩) (fun v y hv => vE_inv hv)
    mb r n D left c hit h1 (fun h0 _ => hDone h0) (fun x cc kl y w' c' hkey hl hv hat hrg hlt hgr hsz hen => ?_)
  obtain ⟨x', ex, rfl⟩ := key_inv' Yba.underlying9 hkey
  cases ex
  have hy := vE_val hv
  subst hy
  have hh : Maps.has D (.string x.data.toList) = true := Maps.has_true_of_atKey hat
  obtain ⟨i, hi, ek⟩ := h2.ks _ hh
  obtain rfl := nm_of ek
  rw [ek] at hat hh hrg
  rw [h2.hs i hi] at hh
  obtain ⟨⟨hd, l⟩, hF⟩ := Option.isSome_iff_exists.1 hh
  obtain ⟨pd, k1, k2, k3⟩ := h2.at_ i hi hd l hF
  have e := (k1 (.held undef)).symm.trans (hat (.held undef))
  obtain ⟨e1, e2⟩ := val_inj (DataW.held.inj e)
  obtain ⟨c1, c2⟩ := cc
  dsimp only at e1 e2 hen ⊢
  subst e1 e2
  exact hMore i hd l pd w' c' hi hF k2 k3 ⟨D, _, hrg, h2⟩ hlt hgr hsz hen
end

/-- A list of waits, m long. -/
def Wo (w : World) (base : Nat) (v : Value) (m : Nat) : Prop := ∃ cs, w.ownsRow base 83 2 v m cs
theorem Wo.nil (w : World) (base : Nat) : Wo w base (.slice none 0 0) 0 := ⟨[], World.ownsRow_nil w base 83 2⟩
theorem Wo.lt {w : World} {base : Nat} {v : Value} {m : Nat} (h : Wo w base v m) : ∀ k, v.ownBlock = some k → base ≤ k := fun k hk => by obtain ⟨cs, h⟩ := h; exact (World.ownsRow.lt h k hk).1
theorem Wo.tag {w : World} {base : Nat} {v : Value} {m : Nat} (h : Wo w base v m) : ∀ k, v.ownBlock = some k → ∃ cs, w.heap[k]? = some (.cells cs 83 (0, 0)) := fun k hk => by
  obtain ⟨cs, h⟩ := h
  rcases h.2 with ⟨e, _⟩ | ⟨gg, cp, cur, e, _, hg', _⟩
  · rw [e] at hk; cases hk
  · rw [e] at hk; cases hk; exact ⟨cur, hg'⟩
theorem Wo.f0 {w w' : World} {base : Nat} {v : Value} {m : Nat} (h : Wo w base v m) (g : w.grownBy w' none) : Wo w' base v m := by
  obtain ⟨cs, h⟩ := h
  refine ⟨cs, World.ownsRow.kept h g ?_⟩
  cases hv : v.ownBlock with
  | none => exact Or.inl rfl
  | some k => exact Or.inr (by simp)
theorem Wo.fr {w w' : World} {base : Nat} {v : Value} {m r : Nat} (h : Wo w base v m) (g : w.grownBy w' (some r)) (hr : r < base) : Wo w' base v m := by
  have hl := h.lt
  obtain ⟨cs, h⟩ := h
  refine ⟨cs, World.ownsRow.kept h g ?_⟩
  cases hv : v.ownBlock with
  | none => exact Or.inl rfl
  | some k =>
    refine Or.inr (fun e' => ?_)
    have := hl k hv
    cases e'
    omega

theorem info83 : (Yba.prog.info? 83).map (fun i => (i.zero, i.size, i.bytes)) = some (some (.agg #[.string ⟨#[]⟩, .int .u32 0]), 2, 24) := by kernel_rfl

theorem appw_u {w : World} {ops : Array Oper} {rest : List Oper} {o : Oper} {a : Act} {Q : Exit → Act → World → Prop} (hgd : o.guard = none) (s x : Operand)
    (ho : o.op = .call { callee := .builtin .append, args := #[s, x], argTypes := #[80, 80] })
    (base : Nat) (v : Value) (m : Nat) (b : Nat) (nm : ByteArray) (id : Int) (hs : a.eval s = v) (hx : a.eval x = .slice (some ⟨b, 0, none⟩) 1 1) (hown : Wo w base v m) (c0 : w.cell? ⟨b, 0, none⟩ = some (.string nm)) (c1 : w.cell? ⟨b, 1, none⟩ = some (.int .u32 id)) (hm : m < 1000000) (hbase : base ≤ w.heap.size)
    (h : ∀ v' w', Wo w' base v' (m + 1) → w.grownBy w' v.ownBlock → wpList Yba.prog ops Q rest (a.put o.dst v') w') : wpList Yba.prog ops Q (o :: rest) a w := by
  obtain ⟨i, hi, hzi⟩ : ∃ i, Yba.prog.info? 83 = some i ∧ (i.zero, i.size, i.bytes) = (some (.agg #[.string ⟨#[]⟩, .int .u32 0]), 2, 24) := by
    have := info83
    cases hh : Yba.prog.info? 83 with
    | none => rw [hh] at this; simp at this
    | some i => rw [hh] at this; exact ⟨i, rfl, by simpa using this⟩
  simp only [Prod.mk.injEq] at hzi
  obtain ⟨cs, hown⟩ := hown
  refine wpList_append_own w hgd s x 80 ho base 83 i _ 2 24 Yba.underlying80 hi hzi.1 hzi.2.1 hzi.2.2 rfl (by decide) v m cs hs hown ⟨b, 0, none⟩ 1 1 [.string nm, .int .u32 id] hx (by simp) (fun j u hu => ?_) (fun u hu => ?_) (by unfold maxLen; omega) (by omega) hbase (fun v' w' h2 h3 _ => h v' w' ⟨_, h2⟩ h3)
  · rw [show (⟨b, 0, none⟩ : Addr).add j = ⟨b, j, none⟩ by unfold Addr.add; split <;> simp_all]
    match j, hu with
    | 0, hu => rw [c0]; exact hu
    | 1, hu => rw [c1]; exact hu
    | n + 2, hu => simp at hu
  · rcases List.mem_cons.1 hu with rfl | hu
    · rfl
    · rcases List.mem_cons.1 hu with rfl | hu
      · rfl
      · cases hu

/-- The listed slice lies apart from the waits. -/
def Ap (w : World) (base : Nat) (v : Value) : Prop := ∀ k, v.ownBlock = some k → k < base ∨ ∃ cs, w.heap[k]? = some (.cells cs 31 (0, 0))
theorem Ap.ne {w : World} {base : Nat} {v x : Value} {m : Nat} (h : Ap w base v) (hw : Wo w base x m) : ∀ k, v.ownBlock = some k → x.ownBlock ≠ some k := fun k hk e => by
  rcases h k hk with h1 | ⟨cs, h1⟩
  · have := hw.lt k e; omega
  · obtain ⟨cs', h2⟩ := hw.tag k e
    rw [h1] at h2
    cases h2
end Go.Proofs.Ybulkdbmw

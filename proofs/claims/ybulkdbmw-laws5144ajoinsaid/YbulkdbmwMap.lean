import Derived.Test.YbulkdbmwPl
import Derived.Maps.OwnSet
import Derived.Maps.RangeWalk
namespace Go.Proofs.Ybulkdbmw
open Go Go.RowKit Go.Sort Go.Shelf Go.Lib

/-- The i-th name. -/
def nmB (i : Nat) : ByteArray := ⟨#[UInt8.ofNat (97 + i)]⟩
def ky (i : Nat) : Lit := .string [UInt8.ofNat (97 + i)]
abbrev Ent := Nat → Option (Hd × List Int)
def upd (F : Ent) (i : Nat) (x : Hd × List Int) : Ent := fun j => if j = i then some x else F j
def cnt (F : Ent) : Nat → Nat
  | 0 => 0
  | k + 1 => cnt F k + (if (F k).isSome then 1 else 0)

theorem cnt_le (F : Ent) : ∀ k, cnt F k ≤ k
  | 0 => Nat.le_refl _
  | k + 1 => by have := cnt_le F k; unfold cnt; split <;> omega

theorem cnt_upd (F : Ent) (i : Nat) (x : Hd × List Int) : ∀ k, cnt (upd F i x) k = cnt F k + (if i < k ∧ (F i).isSome = false then 1 else 0)
  | 0 => by simp [cnt]
  | k + 1 => by
    unfold cnt
    rw [cnt_upd F i x k]
    unfold upd
    by_cases e : k = i
    · subst e
      cases (F k) <;> simp
    · rw [if_neg e]
      by_cases h : i < k
      · have : i < k + 1 := by omega
        simp only [h, this, true_and]
        omega
      · have : ¬ i < k + 1 := by omega
        simp only [h, this, false_and, if_false]
        omega

theorem ky_inj {i j : Nat} (hi : i < 8) (hj : j < 8) (h : ky i = ky j) : i = j := by
  unfold ky at h
  simp only [Lit.string.injEq, List.cons.injEq, and_true] at h
  have := congrArg UInt8.toNat h
  simp at this
  omega

theorem val_inj {h h' : Hd} {p p' : Value} (e : h.val p = h'.val p') : h = h' ∧ p = p' := by
  obtain ⟨nm, sz, vw, h0, h1, h2, h3, h4, h5, tg, ti, tc, av, sq, rm⟩ := h
  obtain ⟨nm', sz', vw', h0', h1', h2', h3', h4', h5', tg', ti', tc', av', sq', rm'⟩ := h'
  simp only [Hd.val, Value.agg.injEq, Array.mk.injEq, List.cons.injEq, Value.string.injEq, Value.int.injEq, Value.bool.injEq, true_and, and_true] at e
  obtain ⟨rfl, rfl, rfl, rfl, rfl, rfl, rfl, rfl, rfl, rfl, rfl, rfl, rfl, rfl, rfl, rfl⟩ := e
  exact ⟨rfl, rfl⟩

open Classical in
/-- A block is read as itself. -/
noncomputable def vE (v : Value) : Option (DataW Value × List MemPlace) := if ∃ (h : Hd) (pd : Value), v = h.val pd then some (.held v, []) else none

theorem vE_mk (h : Hd) (pd : Value) : vE (h.val pd) = some (.held (h.val pd), []) := by
  unfold vE
  rw [if_pos ⟨h, pd, rfl⟩]

theorem vE_inv {v : Value} {y : DataW Value × List MemPlace} (e : vE v = some y) : ∃ c : Hd × Value, v = c.1.val c.2 := by
  unfold vE at e
  split at e
  · rename_i hh
    obtain ⟨h, pd, rfl⟩ := hh
    exact ⟨(h, pd), rfl⟩
  · cases e

theorem vE_val {v : Value} {y : DataW Value × List MemPlace} (e : vE v = some y) : y = (.held v, []) := by
  unfold vE at e
  split at e
  · exact (Option.some.inj e).symm
  · cases e

theorem law9 : Maps.Keyed Yba.prog 9 := Maps.string_keyed Yba.underlying9

theorem key_mk {P : Program} {k : TypeId} (hk : P.underlying k = some .string) (s : ByteArray) (hs : s.size ≤ maxLen) : keyOf P k (.string s) = some (.string s.data.toList) := by
  simp [keyOf, hk, mapKey, hs]

theorem key_inv' {P : Program} {k : TypeId} (hk : P.underlying k = some .string) {key : Value} {kl : Lit} (h : keyOf P k key = some kl) : ∃ x : ByteArray, key = .string x ∧ kl = .string x.data.toList := by
  cases key <;> simp [keyOf, hk, mapKey] at h
  exact ⟨_, rfl, h.2.symm⟩

theorem key9 (i : Nat) : keyOf Yba.prog 9 (.string (nmB i)) = some (ky i) := key_mk Yba.underlying9 (nmB i) (by unfold maxLen; show 1 ≤ _; omega)

theorem isKy (i : Nat) : WideAt.IsKeyLit (ky i) := law9.key (key9 i)

theorem nm_of {x : ByteArray} {i : Nat} (h : Lit.string x.data.toList = ky i) : x = nmB i := by
  unfold ky at h
  obtain ⟨⟨l⟩⟩ := x
  simp only [Lit.string.injEq] at h
  unfold nmB
  rw [h]

/-- The map's datum holds F. -/
structure CatD (w : World) (D : DataW Value) (F : Ent) : Prop where
  sz : Maps.size D = cnt F 8
  hs : ∀ i, i < 8 → Maps.has D (ky i) = (F i).isSome
  at_ : ∀ i, i < 8 → ∀ h l, F i = some (h, l) → ∃ pd, (∀ zd, D.atKey (ky i) zd = .held (h.val pd)) ∧ Pl w pd l ∧ h.nm = nmB i
  ks : ∀ kl, Maps.has D kl = true → ∃ i, i < 8 ∧ kl = ky i

def Cat (w : World) (mb n : Nat) (F : Ent) : Prop := ∃ D, w.ownsMap Yba.prog 9 vE mb n D ∧ CatD w D F
def CatR (w : World) (mb r n : Nat) (F : Ent) (c : Nat) : Prop := ∃ D left, w.ranges Yba.prog 9 vE mb r n D left c ∧ CatD w D F

theorem CatD.fr {w w' : World} {D : DataW Value} {F : Ent} {r : Option Nat} (h : CatD w D F) (g : w.grownBy w' r) (hr : ∀ k, r = some k → ∀ cs T f, w.heap[k]? ≠ some (.cells cs T f)) : CatD w' D F :=
  ⟨h.sz, h.hs, fun i hi hd l e => by obtain ⟨pd, h1, h2, h3⟩ := h.at_ i hi hd l e; exact ⟨pd, h1, h2.fr g hr, h3⟩, h.ks⟩

theorem Cat.fr {w w' : World} {mb n : Nat} {F : Ent} {r : Option Nat} (h : Cat w mb n F) (g : w.grownBy w' r) (hne : some mb ≠ r) (hr : ∀ k, r = some k → ∀ cs T f, w.heap[k]? ≠ some (.cells cs T f)) : Cat w' mb n F := by
  obtain ⟨D, h1, h2⟩ := h
  exact ⟨D, h1.kept g hne, h2.fr g hr⟩
theorem Cat.f0 {w w' : World} {mb n : Nat} {F : Ent} (h : Cat w mb n F) (g : w.grownBy w' none) : Cat w' mb n F := h.fr g (by simp) (fun _ e => by cases e)

/-- The map's block is no row of cells. -/
theorem Cat.nc {w : World} {mb n : Nat} {F : Ent} (h : Cat w mb n F) : ∀ k, some mb = some k → ∀ cs T f, w.heap[k]? ≠ some (.cells cs T f) := by
  obtain ⟨D, ⟨es, cl, hb, _⟩, _⟩ := h
  intro k e cs T f hc
  cases e
  rw [hb] at hc
  cases hc
theorem Cat.lt {w : World} {mb n : Nat} {F : Ent} (h : Cat w mb n F) : mb < w.heap.size := by obtain ⟨D, h1, _⟩ := h; exact h1.lt
theorem Cat.mono {w : World} {mb n m : Nat} {F : Ent} (h : Cat w mb n F) (hm : n ≤ m) : Cat w mb m F := by obtain ⟨D, h1, h2⟩ := h; exact ⟨D, h1.mono hm, h2⟩

theorem Cat.new (w : World) : Cat (w.alloc (.map #[] 0)) w.heap.size 0 (fun _ => none) :=
  ⟨.map [], World.ownsMap_made w _ _ _, rfl, fun _ _ => rfl, fun _ _ _ _ e => (by cases e), fun _ h => (by cases h)⟩

theorem CatD.put {w w' : World} {D : DataW Value} {F : Ent} {mb n : Nat} (h : CatD w D F) (ho : w.ownsMap Yba.prog 9 vE mb n D) (g : w.grownBy w' (some mb)) (i : Nat) (hi : i < 8) (hd : Hd) (l : List Int) (pd : Value) (hp : Pl w pd l) (hn : hd.nm = nmB i) :
    CatD w' (D.put (ky i) (.held (hd.val pd))) (upd F i (hd, l)) := by
  have hnc := Cat.nc (F := F) ⟨D, ho, h⟩
  have td := ho.tidy law9
  have im := ho.isMap
  refine ⟨?_, fun j hj => ?_, fun j hj h' l' e => ?_, fun kl hk => ?_⟩
  · rw [Maps.size_put td, h.hs i hi, h.sz, cnt_upd]
    cases (F i).isSome <;> simp [hi]
  · by_cases e : j = i
    · subst e
      rw [Maps.has_put_same im (isKy j)]
      simp [upd]
    · rw [Maps.has_put_other (fun e' => e (ky_inj hj hi e')), h.hs j hj]
      simp [upd, e]
  · by_cases ej : j = i
    · subst ej
      simp only [upd, if_true, Option.some.injEq, Prod.mk.injEq] at e
      obtain ⟨rfl, rfl⟩ := e
      exact ⟨pd, fun zd => Maps.atKey_put_same im (isKy j) _ _, hp.fr g hnc, hn⟩
    · simp only [upd, if_neg ej] at e
      obtain ⟨pd', h1, h2, h3⟩ := h.at_ j hj h' l' e
      exact ⟨pd', fun zd => by rw [Maps.atKey_put_other (fun e' => ej (ky_inj hj hi e'))]; exact h1 zd, h2.fr g hnc, h3⟩
  · by_cases e : kl = ky i
    · exact ⟨i, hi, e⟩
    · rw [Maps.has_put_other e] at hk
      exact h.ks kl hk

def zHd : Hd := ⟨⟨#[]⟩, 0, 0, 0, 0, 0, 0, 0, 0, 0, 0, 0, 0, 0, false⟩
/-- What a look at the i-th name gives. -/
def LV (F : Ent) (i : Nat) (h : Hd) (l : List Int) : Prop := (F i = some (h, l) ∧ h.nm = nmB i) ∨ (F i = none ∧ h = zHd ∧ l = [])

theorem zero39 (w : World) : (zeroValue 39).run Yba.prog w = .ok (zHd.val (.slice none 0 0)) w := Yba.zeroValue39 w

theorem CatD.lv {w : World} {D : DataW Value} {F : Ent} (h : CatD w D F) (i : Nat) (hi : i < 8) {v : Value} {ps : List MemPlace} (hv : vE v = some (D.atKey (ky i) (.held (zHd.val (.slice none 0 0))), ps)) : ∃ hd l pd, v = Hd.val hd pd ∧ Pl w pd l ∧ LV F i hd l := by
  have e0 := vE_val hv
  have e1 := congrArg Prod.fst e0
  dsimp only at e1
  cases hF : F i with
  | none =>
    have hh : Maps.has D (ky i) = false := by rw [h.hs i hi, hF]; rfl
    rw [Maps.atKey_of_not_has hh] at e1
    exact ⟨zHd, [], .slice none 0 0, (DataW.held.inj e1).symm, Pl.nil _, Or.inr ⟨hF, rfl, rfl⟩⟩
  | some x =>
    obtain ⟨hd, l⟩ := x
    obtain ⟨pd, h1, h2, h3⟩ := h.at_ i hi hd l hF
    rw [h1] at e1
    exact ⟨hd, l, pd, (DataW.held.inj e1).symm, h2, Or.inl ⟨hF, h3⟩⟩

section
variable (w : World) {ops : Array Oper} {rest : List Oper} {o : Oper} {a : Act} {Q : Exit → Act → World → Prop}

theorem look_ok_u (hg : o.guard = none) (m x : Operand) (hop : o.op = Op.lookup 30 m x true) (mb n : Nat) (F : Ent) (i : Nat) (hi : i < 8)
    (hm : a.eval m = .map (some mb)) (hx : a.eval x = .string (nmB i)) (hc : Cat w mb n F)
    (hK : ∀ hd l pd, Pl w pd l → LV F i hd l → wpList Yba.prog ops Q rest (a.put o.dst (.tuple #[Hd.val hd pd, .bool (F i).isSome])) w) : wpList Yba.prog ops Q (o :: rest) a w := by
  obtain ⟨D, h1, h2⟩ := hc
  refine wpList_lookup_own_ok w hg m x 30 hop 9 39 law9 Yba.underlying30 vE (zero39 w) _ [] (vE_mk _ _) mb n D hm h1 _ (ky i) hx (key9 i) (fun v ps hv => ?_)
  obtain ⟨hd, l, pd, rfl, hp, hl⟩ := h2.lv i hi hv
  rw [h2.hs i hi]
  exact hK hd l pd hp hl

theorem look_u (hg : o.guard = none) (m x : Operand) (hop : o.op = Op.lookup 30 m x false) (mb n : Nat) (F : Ent) (i : Nat) (hi : i < 8)
    (hm : a.eval m = .map (some mb)) (hx : a.eval x = .string (nmB i)) (hc : Cat w mb n F)
    (hK : ∀ hd l pd, Pl w pd l → LV F i hd l → wpList Yba.prog ops Q rest (a.put o.dst (Hd.val hd pd)) w) : wpList Yba.prog ops Q (o :: rest) a w := by
  obtain ⟨D, h1, h2⟩ := hc
  refine wpList_plain hg fun K' hK' => ?_
  obtain ⟨v, ps, hrun, hv⟩ := h1.lookup law9 Yba.underlying30 (zero39 w) (vE_mk _ _) (key9 i)
  obtain ⟨hd, l, pd, rfl, hp, hl⟩ := h2.lv i hi hv
  unfold Oper.wp
  simp [execOp, hop, hm, hx, hrun, Result.andThen]
  exact hK' _ _ (hK hd l pd hp hl)

theorem put_u (hg : o.guard = none) (m x v : Operand) (hop : o.op = Op.mapUpdate 30 m x v) (mb n : Nat) (F : Ent) (i : Nat) (hi : i < 8) (hd : Hd) (l : List Int) (pd : Value) (hn : n < 1000000)
    (hm : a.eval m = .map (some mb)) (hx : a.eval x = .string (nmB i)) (hv : a.eval v = Hd.val hd pd) (hc : Cat w mb n F) (hp : Pl w pd l) (hnm : hd.nm = nmB i)
    (hK : ∀ w', Cat w' mb (n + 1) (upd F i (hd, l)) → w.grownBy w' (some mb) → wpList Yba.prog ops Q rest (a.put o.dst undef) w') : wpList Yba.prog ops Q (o :: rest) a w := by
  obtain ⟨D, h1, h2⟩ := hc
  refine wpList_mapUpdate_own w hg m x v 30 hop 9 39 law9 Yba.underlying30 vE mb n D hm h1 (by unfold maxLen; omega) _ _ (ky i) hx hv (key9 i) _ [] (vE_mk _ _) (fun w' ho g => ?_)
  exact hK w' ⟨_, ho, h2.put h1 g i hi hd l pd hp hnm⟩ g

theorem len_u (hg : o.guard = none) (m : Operand) (hop : o.op = Op.call { callee := Callee.builtin Builtin.len, args := #[m], argTypes := #[30] }) (mb n : Nat) (F : Ent)
    (hm : a.eval m = .map (some mb)) (hc : Cat w mb n F) (hK : wpList Yba.prog ops Q rest (a.put o.dst (.int .i64 (cnt F 8 : Nat))) w) : wpList Yba.prog ops Q (o :: rest) a w := by
  obtain ⟨D, h1, h2⟩ := hc
  refine wpList_len_own w hg m 30 hop 9 39 Yba.underlying30 vE mb n D hm h1 ?_
  rw [h2.sz]
  exact hK

theorem range_u (hg : o.guard = none) (m : Operand) (hop : o.op = Op.range 30 m) (mb n : Nat) (F : Ent)
    (hm : a.eval m = .map (some mb)) (hc : Cat w mb n F)
    (hK : ∀ w', CatR w' mb w.heap.size n F (cnt F 8) → w.grownBy w' none → w'.heap.size = w.heap.size + 1 → wpList Yba.prog ops Q rest (a.put o.dst (.pointer (some ⟨w.heap.size, 0, none⟩))) w') : wpList Yba.prog ops Q (o :: rest) a w := by
  obtain ⟨D, h1, h2⟩ := hc
  refine wpList_range_own w hg m 30 hop 9 39 law9 Yba.underlying30 vE mb n D hm h1 (fun w' hr g hsz => ?_)
  rw [h2.sz] at hr
  exact hK w' ⟨D, _, hr, h2.fr g (fun _ e => by cases e)⟩ g hsz

theorem CatR.nc {w : World} {mb r n c : Nat} {F : Ent} (h : CatR w mb r n F c) : ∀ k, some r = some k → ∀ cs T f, w.heap[k]? ≠ some (.cells cs T f) := by
  obtain ⟨D, left, ⟨es, cl, si, se, c0, _, _, _, _, hr, _⟩, _⟩ := h
  intro k e cs T f hc
  cases e
  rw [hr] at hc
  cases hc
theorem CatR.cat {w : World} {mb r n c : Nat} {F : Ent} (h : CatR w mb r n F c) : Cat w mb n F := by obtain ⟨D, left, h1, h2⟩ := h; exact ⟨D, h1.owns, h2⟩
theorem CatR.left_eq {w : World} {mb r n c : Nat} {F : Ent} (h : CatR w mb r n F c) : w.rangeLeft mb r = c := by obtain ⟨D, left, h1, h2⟩ := h; exact h1.left_eq
theorem CatR.lt {w : World} {mb r n c : Nat} {F : Ent} (h : CatR w mb r n F c) : r < w.heap.size := by obtain ⟨D, left, h1, h2⟩ := h; exact h1.lt
theorem CatR.fr {w w' : World} {mb r n c : Nat} {F : Ent} {q : Option Nat} (h : CatR w mb r n F c) (g : w.grownBy w' q) (h1 : some mb ≠ q) (h2 : some r ≠ q) (hr : ∀ k, q = some k → ∀ cs T f, w.heap[k]? ≠ some (.cells cs T f)) : CatR w' mb r n F c := by
  obtain ⟨D, left, k1, k2⟩ := h
  exact ⟨D, left, k1.kept g h1 h2, k2.fr g hr⟩
theorem CatR.f0 {w w' : World} {mb r n c : Nat} {F : Ent} (h : CatR w mb r n F c) (g : w.grownBy w' none) : CatR w' mb r n F c := h.fr g (by simp) (by simp) (fun _ e => by cases e)

theorem next_u (hg : o.guard = none) (it : Operand) (hop : o.op = Op.next it false) (mb r n c : Nat) (F : Ent)
    (hit : a.eval it = .pointer (some ⟨r, 0, none⟩)) (h : CatR w mb r n F c)
    (hDone : c = 0 → wpList Yba.prog ops Q rest (a.put o.dst (.tuple #[.bool false])) w)
    (hMore : ∀ (i : Nat) (hd : Hd) (l : List Int) (pd : Value) (w' : World) (c' : Nat), i < 8 → F i = some (hd, l) → Pl w' pd l → hd.nm = nmB i → CatR w' mb r n F c' → c' < c → w.grownBy w' (some r) → w'.heap.size = w.heap.size →
      (Instr.entry (.pointer (some ⟨r, 0, none⟩))).run Yba.prog w' = .ok (.tuple #[.string (nmB i), Hd.val hd pd]) w' → wpList Yba.prog ops Q rest (a.put o.dst (.tuple #[.bool true, .string (nmB i), Hd.val hd pd])) w') :
    wpList Yba.prog ops Q (o :: rest) a w := by
  have hnc := h.nc
  obtain ⟨D, left, h1, h2⟩ := h
  refine wpList_next_ranges (α := ByteArray) (β := Hd × Value) w hg it hop 9 law9 vE Value.string (fun c => c.1.val c.2) (fun key kl hkey => by obtain ⟨x, hx, _⟩ := key_inv' Yba.underlying9 hkey; exact ⟨x, hx⟩) (fun v y hv => vE_inv hv)
    mb r n D left c hit h1 (fun h0 _ => hDone h0) (fun x cc kl y w' c' hkey hl hv hat hrg hlt hgr hsz hen => ?_)
  obtain ⟨x', ex, rfl⟩ := key_inv' Yba.underlying9 hkey
  cases ex
  have hy := vE_val hv
  subst hy
  have hh : Maps.has D (.string x.data.toList) = true := Maps.has_true_of_atKey hat
  obtain ⟨i, hi, ek⟩ := h2.ks _ hh
  obtain rfl := nm_of ek
  rw [ek] at hat hh hrg
  rw [h2.hs i hi] at hh
  obtain ⟨⟨hd, l⟩, hF⟩ := Option.isSome_iff_exists.1 hh
  obtain ⟨pd, k1, k2, k3⟩ := h2.at_ i hi hd l hF
  have e := (k1 (.held undef)).symm.trans (hat (.held undef))
  obtain ⟨e1, e2⟩ := val_inj (DataW.held.inj e)
  obtain ⟨c1, c2⟩ := cc
  dsimp only at e1 e2 hen ⊢
  subst e1 e2
  exact hMore i hd l pd w' c' hi hF (k2.fr hgr hnc) k3 ⟨D, _, hrg, h2.fr hgr hnc⟩ hlt hgr hsz hen
end
end Go.Proofs.Ybulkdbmw

import Derived.Test.YbulkdbksState
namespace Go.Proofs.Ybulkdbks
open Go Go.RowKit

theorem ta102 (v : Value) (w : World) : (Instr.typeAssert (.iface 102 v) 20 102 false).run Yba.prog w = .ok v w := by kernel_rfl
theorem ta102ok (v : Value) (w : World) : (Instr.typeAssert (.iface 102 v) 20 102 true).run Yba.prog w = .ok (.tuple #[v, .bool true]) w := by kernel_rfl

theorem mv_len {w : World} {κ : Nat → Nat} {v : Value} {m : Nat} (h : MsOk w κ v m) : ∃ ao cap, v = .slice ao m cap := by
  rcases h with ⟨rfl, rfl⟩ | ⟨b, cap, rfl, _⟩
  · exact ⟨_, _, rfl⟩
  · exact ⟨_, _, rfl⟩

theorem msz_max (m : Nat) : max (1 : Int) m = (msz m : Nat) := by unfold msz; split <;> omega

theorem size_any (ab : Nat) (k : Value) (ao : Option Addr) (m cap : Nat) (v2 v3 : Value) (w : World) (h : w.heap[ab]? = some (.cells #[k, .slice ao m cap, v2, v3] 105 (0, 0))) (hm : m ≤ 6) :
    Calls Yba.prog 37 #[ptr ab 0] w fun e w' => e = .returned (.int .i64 (msz m : Nat)) ∧ w' = w := by
  have h1 : w.cell? ⟨ab, 1, none⟩ = some (.slice ao m cap) := by unfold World.cell?; simp [h]
  have HM : Hid _ := msz_max m
  go_enter Yba.func37, Yba.ntmps37
  go_wp2
  · go_ret
    refine ⟨?_, rfl⟩
    show Ending.returned (.int .i64 (m : Int)) = _
    rw [← HM.out, Int.max_eq_right (by omega)]
  · go_ret
    refine ⟨?_, rfl⟩
    show Ending.returned (.int .i64 (1 : Int)) = _
    rw [← HM.out, Int.max_eq_left (by omega)]

theorem expired_any (nb eb ab : Nat) (k v1 v2 : Value) (since now F : Int) (w : World) (h : w.heap[ab]? = some (.cells #[k, v1, v2, .int .i64 since] 105 (0, 0)))
  (c3 : w.cell? ⟨eb, 3, none⟩ = some (.iface 102 (ptr ab 0))) (cF : w.cell? ⟨nb, 114, none⟩ = some (.int .i64 F)) (h0 : 0 ≤ since) (h1 : since < 64) (h2 : 0 ≤ now) (h3 : now < 64) :
    Calls Yba.prog 30 #[ptr nb 112, ptr eb 0, .int .i64 now] w fun e w' => e = .returned (.bool (decide (F ≤ now - since))) ∧ ∃ d, w' = dr w d := by
  have h1 : w.cell? ⟨ab, 3, none⟩ = some (.int .i64 since) := by unfold World.cell?; simp [h]
  have ta := ta102
  go_enter Yba.func30, Yba.ntmps30
  go_wp2
  go_quiet (fail)
  go_wp2
  go_ret
  exact ⟨rfl, _, rfl⟩

theorem nodup_mid {α : Type} {l1 l2 : List α} {x : α} (h : (l1 ++ x :: l2).Nodup) : (l1 ++ l2).Nodup ∧ x ∉ l1 ++ l2 := by
  have h' := List.nodup_append.1 h
  have h'' := List.nodup_cons.1 h'.2.1
  refine ⟨List.nodup_append.2 ⟨h'.1, h''.2, fun a ha b hb => h'.2.2 a ha b (by simp [hb])⟩, fun hx => ?_⟩
  simp at hx
  rcases hx with hx | hx
  · exact h'.2.2 x hx x (by simp) rfl
  · exact h''.1 hx

theorem heldOf_mid (l1 l2 : List Ent) (e : Ent) : heldOf (l1 ++ e :: l2) = heldOf (l1 ++ l2) + msz e.m := by
  simp [heldOf]; omega

/-- The ring around an element of the list. -/
theorem Inv.around {w : World} {κ : Nat → Nat} {nb mb : Nat} {N K F : Int} {l1 l2 : List Ent} {e : Ent} (I : Inv w κ nb mb N K F (l1 ++ e :: l2)) :
    ∃ A p s B, nb :: l1.map Ent.eb = A ++ [p] ∧ l2.map Ent.eb ++ [nb] = s :: B ∧ Chain w nb (A ++ p :: e.eb :: s :: B) ∧ (p = nb ∨ p ∈ (l1 ++ l2).map Ent.eb) ∧ (s = nb ∨ s ∈ (l1 ++ l2).map Ent.eb) ∧ p ≠ e.eb ∧ s ≠ e.eb := by
  have hr : Chain w nb (nb :: (l1 ++ e :: l2).map Ent.eb ++ [nb]) := by
    rcases I.ring with ⟨h, _⟩ | h
    · simp at h
    · exact h
  have hm : (l1 ++ e :: l2).map Ent.eb = l1.map Ent.eb ++ e.eb :: l2.map Ent.eb := by simp
  have nd := I.nd
  have nn := nb_not_el I
  rw [hm] at hr nd nn
  obtain ⟨A, p, s, B, hA, hB, hf⟩ := ring_split (nb := nb) (l1 := l1.map Ent.eb) (l2 := l2.map Ent.eb) (e := e.eb)
  rw [hf] at hr
  have hp := mem_last hA
  have hs := mem_head hB
  have nm := (nodup_mid nd).2
  have ne : nb ≠ e.eb := fun h => nn (by simp [h])
  have hp' : p = nb ∨ p ∈ (l1 ++ l2).map Ent.eb := hp.imp id (fun h => by rw [List.map_append]; exact List.mem_append.2 (Or.inl h))
  have hs' : s = nb ∨ s ∈ (l1 ++ l2).map Ent.eb := hs.imp id (fun h => by rw [List.map_append]; exact List.mem_append.2 (Or.inr h))
  refine ⟨A, p, s, B, hA, hB, hr, hp', hs', ?_, ?_⟩
  · rcases hp' with h | h
    · rw [h]; exact ne
    · exact fun hx => nm (by rw [← hx]; simpa using h)
  · rcases hs' with h | h
    · rw [h]; exact ne
    · exact fun hx => nm (by rw [← hx]; simpa using h)

theorem set_os (w : World) (a : Addr) (v : Value) : (w.setCell a v).os = w.os := rfl
theorem set_tape (w : World) (a : Addr) (v : Value) : (w.setCell a v).tape = w.tape := rfl
theorem set_output (w : World) (a : Addr) (v : Value) : (w.setCell a v).output = w.output := rfl
theorem remW_fields (w : World) (lb lo eb pb po sb so : Nat) (n : Int) : (remW w lb lo eb pb po sb so n).os = w.os ∧ (remW w lb lo eb pb po sb so n).tape = w.tape ∧ (remW w lb lo eb pb po sb so n).output = w.output := by
  unfold remW
  refine ⟨?_, ?_, ?_⟩
  · rw [set_os, set_os, set_os, set_os, set_os, set_os]
  · rw [set_tape, set_tape, set_tape, set_tape, set_tape, set_tape]
  · rw [set_output, set_output, set_output, set_output, set_output, set_output]

set_option maxHeartbeats 1000000 in
theorem inv_drop {w w1 w2 w' : World} {κ : Nat → Nat} {nb mb n p s d : Nat} {N K F : Int} {l1 l2 : List Ent} {e : Ent} {A B : List Nat} {D : DataW Unit} (I : Inv w κ nb mb N K F (l1 ++ e :: l2))
    (hA : nb :: l1.map Ent.eb = A ++ [p]) (hB : l2.map Ent.eb ++ [nb] = s :: B) (hC : Chain w nb (A ++ p :: e.eb :: s :: B)) (hp : p = nb ∨ p ∈ (l1 ++ l2).map Ent.eb) (hs : s = nb ∨ s ∈ (l1 ++ l2).map Ent.eb) (hpe : p ≠ e.eb) (hse : s ≠ e.eb)
    (h1 : w1 = dr (remW w nb 117 e.eb p (off nb p) s (off nb s) ((l1 ++ e :: l2).length : Nat)) d)
    (g2 : w1.grownBy w2 (some mb)) (hD : w.ownsMap Yba.prog 9 pElem mb (Maps.size D) D) (hM : MapOk D (l1 ++ e :: l2)) (hD2 : w2.ownsMap Yba.prog 9 pElem mb n (D.del (.string e.kl)))
    (hh : w'.heap = (w2.setCell ⟨nb, 115, none⟩ (.int .i64 (heldOf (l1 ++ l2)))).heap) (ho : w'.os = w2.os) (ht : w'.tape = w2.tape) (hu : w'.output = w2.output) :
    Inv w' κ nb mb N K F (l1 ++ l2) ∧ Fr κ w w' := by
  have E := I.ents e (by simp)
  have sub : ∀ x, x ∈ l1 ++ l2 → x ∈ l1 ++ e :: l2 := fun x hx => by simp at hx ⊢; rcases hx with h | h <;> simp [h]
  have elp : ∀ b, (b = nb ∨ b ∈ (l1 ++ l2).map Ent.eb) → b = nb ∨ b ∈ (l1 ++ e :: l2).map Ent.eb := fun b hb => hb.imp id (fun h => by
    obtain ⟨x, hx, rfl⟩ := List.mem_map.1 h
    exact List.mem_map.2 ⟨x, sub x hx, rfl⟩)
  obtain ⟨wp, kp⟩ := el_wr I (elp p hp)
  obtain ⟨ws, ks⟩ := el_wr I (elp s hs)
  have op := off_cases nb p
  have os := off_cases nb s
  have kn := I.kn
  have km := I.km
  have ke := E.ke
  have mn : mb ≠ nb := fun h => by rw [h, kn] at km; cases km
  have sz1 : w1.heap.size = w.heap.size := by rw [h1, dr_heap]; simp [remW]
  -- a block that is none of the ring's and not the map
  have oth : ∀ b, b < w.heap.size → κ b ≠ 2 → κ b ≠ 4 → κ b ≠ 5 → w'.heap[b]? = w.heap[b]? := fun b hb k2 k4 k5 => by
    rw [hh, heap_set_ne (b := nb) (b' := b) (fun h => k4 (h ▸ kn)), g2.block b (by omega) (fun h => by injection h with h; exact k5 (h ▸ km)), h1, dr_heap]
    exact remW_heap (fun h => by subst h; omega) (fun h => by subst h; omega) (fun h => by subst h; omega) (fun h => by subst h; omega)
  -- a cell of a block that is not the map, as remW leaves it
  have cel : ∀ b i, b < w.heap.size → b ≠ mb → ¬ (b = nb ∧ i = 115) → w'.cell? ⟨b, i, none⟩ = (remW w nb 117 e.eb p (off nb p) s (off nb s) ((l1 ++ e :: l2).length : Nat)).cell? ⟨b, i, none⟩ := fun b i hb hm hi => by
    have e1 : w'.cell? ⟨b, i, none⟩ = (w2.setCell ⟨nb, 115, none⟩ (.int .i64 (heldOf (l1 ++ l2)))).cell? ⟨b, i, none⟩ := by simp only [World.cell?, hh]
    rw [e1, cs_ne rfl (fun h => hi ⟨h.1.symm, h.2.symm⟩), World.cell?_of_block (g2.block b (by omega) (fun h => by injection h with h; exact hm h)), h1, dr_cell]
  have wr : ∀ b, b ≠ mb → Wr w b → Wr w' b := fun b hm hb => by
    have r := remW_wr (lb := nb) (lo := 117) (eb := e.eb) (pb := p) (po := off nb p) (sb := s) (so := off nb s) (n := ((l1 ++ e :: l2).length : Nat)) hb
    have r2 : Wr w2 b := by
      obtain ⟨c, T, hc⟩ := r
      exact ⟨c, T, by rw [g2.block b (by rw [sz1]; exact hb.lt) (fun h => by injection h with h; exact hm h), h1, dr_heap]; exact hc⟩
    obtain ⟨c, T, hc⟩ := r2.set nb 115 (.int .i64 (heldOf (l1 ++ l2)))
    exact ⟨c, T, by rw [hh]; exact hc⟩
  have ln := I.wn.lt
  have nbc : ∀ i, i ≠ 115 → i ≠ 117 → i ≠ 118 → i ≠ 121 → w'.cell? ⟨nb, i, none⟩ = w.cell? ⟨nb, i, none⟩ := fun i a b c f => by
    rw [cel nb i ln mn.symm (by omega)]
    refine remW_cell ?_ ?_ ?_ (by omega)
    · rintro ⟨rfl, h⟩; rw [off_root] at h; omega
    · rintro ⟨rfl, h⟩; rw [off_root] at h; omega
    · rintro ⟨h, _⟩; rw [h, kn] at ke; cases ke
  have nd := I.nd
  have na := I.na
  have nk := I.nk
  have mapm : ∀ {α : Type} (f : Ent → α), (l1 ++ e :: l2).map f = l1.map f ++ f e :: l2.map f := fun f => by simp
  have mapm' : ∀ {α : Type} (f : Ent → α), (l1 ++ l2).map f = l1.map f ++ l2.map f := fun f => by simp
  have nn := nb_not_el I
  rw [mapm] at nd na nk nn
  have nm := nodup_mid nd
  have nmk := nodup_mid nk
  have keys : ∀ x ∈ l1 ++ l2, x.kl ≠ e.kl := fun x hx h => nmk.2 (by
    rw [← mapm', List.mem_map]; exact ⟨x, hx, kl_inj h⟩)
  have lenEq : ((l1 ++ e :: l2).length : Int) - 1 = ((l1 ++ l2).length : Nat) := by simp; omega
  have chn := chain_remW (n := ((l1 ++ e :: l2).length : Nat)) hA hB nd nn hC hpe hse
  have mlt := hD.lt
  refine ⟨⟨kn, wr nb mn.symm I.wn, (nbc _ (by decide) (by decide) (by decide) (by decide)).trans I.cN, (nbc _ (by decide) (by decide) (by decide) (by decide)).trans I.cK, (nbc _ (by decide) (by decide) (by decide) (by decide)).trans I.cF, ?_, (nbc _ (by decide) (by decide) (by decide) (by decide)).trans I.cm, ?_, ?_, km, ⟨D.del (.string e.kl), ?_, hM.del (hD.tidy law9) keys⟩, ?_, ?_, ?_, ?_⟩, ?_⟩
  · have : ∃ u, w2.cell? ⟨nb, 115, none⟩ = some u := by
      refine ⟨.int .i64 (heldOf (l1 ++ e :: l2)), ?_⟩
      rw [World.cell?_of_block (g2.block nb (by omega) (fun h => by injection h with h; exact mn h.symm)), h1, dr_cell, remW_cell ?_ ?_ ?_ (by omega)]
      · exact I.ch
      · rintro ⟨rfl, h⟩; rw [off_root] at h; omega
      · rintro ⟨rfl, h⟩; rw [off_root] at h; omega
      · rintro ⟨h, _⟩; rw [h, kn] at ke; cases ke
    obtain ⟨u, hu⟩ := this
    have := cs_eq (v := .int .i64 (heldOf (l1 ++ l2))) rfl hu
    simp only [World.cell?, hh] at this ⊢
    exact this
  · rw [cel nb 121 ln mn.symm (by omega), ← lenEq]
    exact remW_len I.cl (fun h => by rw [h] at kn; rw [kn] at ke; cases ke) (fun h => by rw [h, off_root]) (fun h => by rw [h, off_root])
  · right
    rw [mapm']
    refine chain_frame ?_ ?_ chn
    · intro x hx
      rw [List.dropLast_concat] at hx
      have hx' : x = nb ∨ x ∈ (l1 ++ l2).map Ent.eb := by rw [mapm']; simpa using hx
      obtain ⟨wx, kx⟩ := el_wr I (elp x hx')
      have ox := off_cases nb x
      exact cel x _ wx.lt (fun h => by subst h; omega) (by omega)
    · intro x hx
      have hx' : x = nb ∨ x ∈ (l1 ++ l2).map Ent.eb := by
        rw [mapm']
        simp at hx
        rcases hx with h | h | h
        · exact Or.inr (by simp only [List.mem_append, List.mem_map]; exact Or.inl h)
        · exact Or.inr (by simp only [List.mem_append, List.mem_map]; exact Or.inr h)
        · exact Or.inl h
      obtain ⟨wx, kx⟩ := el_wr I (elp x hx')
      have ox := off_cases nb x
      exact cel x _ wx.lt (fun h => by subst h; omega) (by omega)
  · refine ownsMap_tight (n := n) ?_
    obtain ⟨es, clock, hb, r⟩ := hD2
    exact ⟨es, clock, by rw [hh, heap_set_ne (Ne.symm mn)]; exact hb, r⟩
  · rw [mapm']; exact nm.1
  · rw [mapm']; exact (nodup_mid na).1
  · rw [mapm']; exact nmk.1
  · intro x hx
    have X := I.ents x (sub x hx)
    have kx := X.ke
    have xe : x.eb ≠ e.eb := fun h => nm.2 (by rw [← mapm', List.mem_map]; exact ⟨x, hx, h⟩)
    have xn : x.eb ≠ nb := fun h => by rw [h, kn] at kx; cases kx
    have xm : x.eb ≠ mb := fun h => by rw [h, km] at kx; cases kx
    refine X.frame (by rw [hh]; simpa [sz1] using g2.size) (fun _ _ _ => rfl) (fun b hb k1 => oth b hb (by omega) (by omega) (by omega)) (wr _ xm X.we) ?_ ?_ (oth _ X.al (by rw [X.ka]; decide) (by rw [X.ka]; decide) (by rw [X.ka]; decide))
    · rw [cel x.eb 2 X.we.lt xm (by omega)]
      exact remW_cell (by omega) (by omega) (by omega) (by omega)
    · rw [cel x.eb 3 X.we.lt xm (by omega)]
      exact remW_cell (by omega) (by omega) (by omega) (by omega)
  · have rf := remW_fields w nb 117 e.eb p (off nb p) s (off nb s) ((l1 ++ e :: l2).length : Nat)
    refine ⟨ho.trans (g2.os.trans (by rw [h1]; exact rf.1)), ht.trans (g2.tape.trans (by rw [h1]; exact rf.2.1)), hu.trans (g2.output.trans (by rw [h1]; exact rf.2.2)), by rw [hh]; simpa [sz1] using g2.size, fun b hb k1 => oth b hb (by omega) (by omega) (by omega)⟩
end Go.Proofs.Ybulkdbks

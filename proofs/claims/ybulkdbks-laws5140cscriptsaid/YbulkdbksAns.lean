import Derived.Test.YbulkdbksMove
import Derived.Test.YbulkdbksCopy
namespace Go.Proofs.Ybulkdbks
open Go Go.RowKit

/-- The answer has come. -/
def Ent.got (e : Ent) (m : Nat) (mv : Value) : Ent := { e with m := m, come := true, mv := mv }

set_option maxHeartbeats 1000000 in
theorem inv_ans {w w' : World} {κ κ' : Nat → Nat} {nb mb m : Nat} {N K F : Int} {l1 l2 : List Ent} {e : Ent} {mv : Value} (I : Inv w κ nb mb N K F (l1 ++ e :: l2))
    (hs : w.heap.size ≤ w'.heap.size) (wn : Wr w' nb) (c115 : w'.cell? ⟨nb, 115, none⟩ = some (.int .i64 (heldOf (l1 ++ e.got m mv :: l2)))) (nbc : ∀ i, i ≠ 115 → w'.cell? ⟨nb, i, none⟩ = w.cell? ⟨nb, i, none⟩)
    (ha : w'.heap[e.ab]? = some (.cells #[.string e.key, mv, .bool true, .int .i64 e.since] 105 (0, 0)))
    (ho : ∀ b, b < w.heap.size → b ≠ nb → b ≠ e.ab → w'.heap[b]? = w.heap[b]?) (hk : ∀ b, b < w.heap.size → κ' b = κ b) (hm : MOk w' κ' mv m (fun _ => 0)) (hm6 : m ≤ 6)
    (os : w'.os = w.os) (tape : w'.tape = w.tape) (output : w'.output = w.output) :
    Inv w' κ' nb mb N K F (l1 ++ e.got m mv :: l2) ∧ Fr κ w w' := by
  have kn := I.kn
  have km := I.km
  have E := I.ents e (by simp)
  have ka := E.ka
  have ln := I.wn.lt
  obtain ⟨D, hD, hM⟩ := I.map
  have lm := hD.lt
  have oth : ∀ b, b < w.heap.size → κ b ≠ 3 → κ b ≠ 4 → w'.heap[b]? = w.heap[b]? := fun b hb k3 k4 => ho b hb (fun h => k4 (h ▸ kn)) (fun h => k3 (h ▸ ka))
  have mapm : ∀ {α : Type} (g : Ent → α), g (e.got m mv) = g e → (l1 ++ e.got m mv :: l2).map g = (l1 ++ e :: l2).map g := fun g h => by simp [h]
  have nn := nb_not_el I
  refine ⟨⟨(hk nb ln).trans kn, wn, (nbc _ (by decide)).trans I.cN, (nbc _ (by decide)).trans I.cK, (nbc _ (by decide)).trans I.cF, c115, (nbc _ (by decide)).trans I.cm, ?_, ?_, (hk mb lm).trans km, ⟨D, ?_, ?_⟩, ?_, ?_, ?_, ?_⟩, os, tape, output, hs, fun b hb k1 => oth b hb (fun h => by rw [h] at k1; simp at k1) (fun h => by rw [h] at k1; simp at k1)⟩
  · have := (nbc 121 (by decide)).trans I.cl
    simpa using this
  · rw [mapm Ent.eb rfl]
    rcases I.ring with ⟨h, _⟩ | h
    · simp at h
    · right
      have cell : ∀ x i, (x = nb ∨ x ∈ (l1 ++ e :: l2).map Ent.eb) → i ≠ 115 → w'.cell? ⟨x, i, none⟩ = w.cell? ⟨x, i, none⟩ := fun x i hx hi => by
        rcases hx with rfl | hx
        · exact nbc i hi
        · obtain ⟨wx, kx⟩ := el_wr I (Or.inr hx)
          have kx2 : κ x = 2 := by
            obtain ⟨y, hy, rfl⟩ := List.mem_map.1 hx
            exact (I.ents y hy).ke
          exact World.cell?_of_block (oth x wx.lt (by rw [kx2]; decide) (by rw [kx2]; decide))
      refine chain_frame ?_ ?_ h
      · intro x hx
        rw [List.dropLast_concat] at hx
        refine cell x _ (by simpa using hx) ?_
        rcases off_cases nb x with ⟨_, h⟩ | ⟨_, h⟩ <;> rw [h] <;> decide
      · intro x hx
        refine cell x _ ?_ ?_
        · simp only [List.cons_append, List.tail_cons, List.mem_append, List.mem_singleton] at hx
          exact hx.symm
        · rcases off_cases nb x with ⟨_, h⟩ | ⟨_, h⟩ <;> rw [h] <;> decide
  · obtain ⟨es, clock, hb, r⟩ := hD
    exact ⟨es, clock, (oth mb lm (by rw [km]; decide) (by rw [km]; decide)).trans hb, r⟩
  · refine hM.same (fun x hx => ?_) (fun x hx => ?_) (by simp)
    · simp at hx
      rcases hx with h | rfl | h
      · exact ⟨x, by simp [h], rfl, rfl⟩
      · exact ⟨e, by simp, rfl, rfl⟩
      · exact ⟨x, by simp [h], rfl, rfl⟩
    · simp at hx
      rcases hx with h | rfl | h
      · exact ⟨x, by simp [h], rfl⟩
      · exact ⟨x.got m mv, by simp, rfl⟩
      · exact ⟨x, by simp [h], rfl⟩
  · rw [mapm Ent.eb rfl]; exact I.nd
  · rw [mapm Ent.ab rfl]; exact I.na
  · rw [mapm Ent.key rfl]; exact I.nk
  · intro x hx
    have old : ∀ x, x ∈ l1 ++ e :: l2 → x.ab ≠ e.ab → EntOk w' κ' nb x := fun x hx hne => by
      have X := I.ents x hx
      have he := oth x.eb X.we.lt (by rw [X.ke]; decide) (by rw [X.ke]; decide)
      refine X.frame hs (fun b hb _ => hk b hb) (fun b hb k1 => oth b hb (by rw [k1]; decide) (by rw [k1]; decide)) ?_ (World.cell?_of_block he) (World.cell?_of_block he) (ho _ X.al (fun h => by have := X.ka; rw [h, kn] at this; cases this) hne)
      obtain ⟨c, T, hc⟩ := X.we
      exact ⟨c, T, he.trans hc⟩
    have na := I.na
    rw [List.map_append, List.map_cons] at na
    have nm := (nodup_mid na).2
    simp at hx
    rcases hx with h | rfl | h
    · exact old x (by simp [h]) (fun hh => nm (by rw [← hh]; simp only [List.mem_append, List.mem_map]; exact Or.inl ⟨x, h, rfl⟩))
    · have he := oth e.eb E.we.lt (by rw [E.ke]; decide) (by rw [E.ke]; decide)
      refine ⟨(hk _ E.we.lt).trans E.ke, ?_, (World.cell?_of_block he).trans E.c2, (World.cell?_of_block he).trans E.c3, (hk _ E.al).trans E.ka, ha, Or.inr hm, E.kz, hm6, E.sz⟩
      obtain ⟨c, T, hc⟩ := E.we
      exact ⟨c, T, he.trans hc⟩
    · exact old x (by simp [h]) (fun hh => nm (by rw [← hh]; simp only [List.mem_append, List.mem_map]; exact Or.inr ⟨x, h, rfl⟩))
end Go.Proofs.Ybulkdbks

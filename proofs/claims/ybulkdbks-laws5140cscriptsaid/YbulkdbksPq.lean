import Derived.Test.YbulkdbksPc
namespace Go.Proofs.Ybulkdbks
open Go Go.RowKit

/-- The cells of a query of these keywords alone. -/
abbrev qc (kw : Value) : Array Value := #[kw, .pointer none, .int .u8 0, .int .u8 0, .int .u8 0, .int .u8 0, .int .u8 0, .int .u8 0, .int .u8 0, .int .u8 0, .int .u8 0, .int .u8 0, .int .u8 0, .int .u8 0, .int .u8 0, .int .u8 0, .int .u8 0, .int .u8 0, .int .u8 0, .int .u8 0, .int .u8 0, .int .u8 0, .int .i64 0]

theorem slnn (w : World) : (binOp .neq 86 (.slice none 0 0) (.slice none 0 0)).run Yba.prog w = .ok (.bool false) w := by kernel_rfl
theorem slsn (w : World) (b m c : Nat) : (binOp .eql 86 (.slice (some ⟨b, 0, none⟩) m c) (.slice none 0 0)).run Yba.prog w = .ok (.bool false) w := by kernel_rfl

theorem St.dN {w0 w : World} {cb nb mb N : Nat} {K F : Int} {κ : Nat → Nat} {L : List Ent} (h : St w0 cb nb mb N K F κ L w) (n : Nat) : St w0 cb nb mb N K F κ L (w.drewN n) :=
  ⟨h.inv.drewN n, h.held, h.kc, h.cfg, h.old, h.os, h.tape, h.output, h.size⟩
theorem Mo.dN {w : World} {κ : Nat → Nat} {L : List Ent} {v : Value} (h : Mo κ L w v) (n : Nat) : Mo κ L (w.drewN n) v := ⟨h.row.same (fun _ _ => rfl), h.kb⟩

/-- A slice's length. -/
def slLen : Value → Nat
  | .slice _ n _ => n
  | _ => 0

theorem MR.cap {w : World} {g n cap : Nat} {L : List Ent} (h : MR w (.slice (some ⟨g, 0, none⟩) n cap) L) : L.length ≤ cap := by
  rcases h with ⟨h, _⟩ | ⟨g', cap', hv, h⟩
  · cases h
  · injection hv with _ _ hc
    subst hc
    rcases h.2 with ⟨h, _⟩ | ⟨g', cap', cur, hv, _, _, h3, _⟩
    · cases h
    · injection hv with _ _ hc
      subst hc
      exact h3

theorem EqIn.grown {w w' : World} {v : Value} {m : Nat} (h : EqIn w v m) (g : w.grownBy w' none) : EqIn w' v m := by
  obtain ⟨ao, cap, rfl, hh⟩ := h
  refine ⟨ao, cap, rfl, fun h0 => ?_⟩
  obtain ⟨b, rfl, h2⟩ := hh h0
  exact ⟨b, rfl, fun j hj => (h2 j hj).grown g⟩

/-- A post that holds at the normal end alone. -/
def nrm (Q : Exit → Act → World → Prop) : Exit → Act → World → Prop
  | .normal, a, w => Q .normal a w
  | _, _, _ => False
theorem nrm_imp {Q : Exit → Act → World → Prop} : ∀ (e : Exit) (a : Act) (w : World), nrm Q e a w → Q e a w
  | .normal, _, _, h => h
  | .exit _, _, _, h => h.elim
  | .goto _, _, _, h => h.elim
  | .ret, _, _, h => h.elim
  | .panic _, _, _, h => h.elim
  | .outgrown, _, _, h => h.elim

theorem take_held (L : List Ent) (j : Nat) (h : j < L.length) : heldOf (L.take (j + 1)) = heldOf (L.take j) + msz L[j].m := by
  rw [List.take_add_one, List.getElem?_eq_getElem h, heldOf, heldOf, List.map_append, List.sum_append]
  simp only [Option.toList, List.map_cons, List.map_nil, List.sum_cons, List.sum_nil, Nat.add_zero]
end Go.Proofs.Ybulkdbks

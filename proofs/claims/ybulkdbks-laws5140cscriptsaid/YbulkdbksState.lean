import Derived.Test.YbulkdbksRing
import Derived.Maps.OwnSet
import Derived.StringKeys
namespace Go.Proofs.Ybulkdbks
open Go Go.RowKit

/-- How a pointer to the start of a block reads: as the block's number. -/
def pElem : Value → Option (DataW Unit × List MemPlace)
  | .pointer none => some (.nil, [])
  | .pointer (some a) => if a.off = 0 ∧ a.spot = none then some (.lit (.int .i64 a.block), []) else none
  | _ => none
theorem pElem_nil : pElem (.pointer none) = some (.nil, []) := rfl
theorem pElem_ptr (b : Nat) : pElem (ptr b 0) = some (.lit (.int .i64 b), []) := by simp [pElem]
theorem pElem_inv_lit {v : Value} {b : Nat} {ps : List MemPlace} (h : pElem v = some (.lit (.int .i64 (b : Int)), ps)) : v = ptr b 0 := by
  unfold pElem at h
  split at h
  · cases h
  · rename_i a
    split at h
    · rename_i hc
      obtain ⟨blk, o, sp⟩ := a
      simp at hc h
      obtain ⟨rfl, rfl⟩ := hc
      have hb : blk = b := by have := h.1; omega
      subst hb
      rfl
    · cases h
  · cases h
theorem pElem_inv_nil {v : Value} {ps : List MemPlace} (h : pElem v = some (.nil, ps)) : v = .pointer none := by
  unfold pElem at h
  split at h
  · rfl
  · split at h <;> simp at h
  · cases h

theorem law9 : Maps.Keyed Yba.prog 9 := Maps.string_keyed Yba.underlying9
theorem keyS {s : ByteArray} (h : s.size ≤ 100) : keyOf Yba.prog 9 (.string s) = some (.string s.data.toList) := WideMaps.keyOf_string_mk Yba.underlying9 (by unfold maxLen; omega)

theorem ownsMap_tight {w : World} {b n : Nat} {D : DataW Unit} (h : w.ownsMap Yba.prog 9 pElem b n D) : w.ownsMap Yba.prog 9 pElem b (Maps.size D) D := by
  obtain ⟨es, clock, hb, F, hs, rfl⟩ := h
  exact ⟨es, clock, hb, F, by simp [Maps.size, length_sorted], rfl⟩

/-- One answer: where its element and itself lie, and what it is. -/
structure Ent where
  eb : Nat
  ab : Nat
  key : ByteArray
  m : Nat
  come : Bool
  since : Int
  mv : Value

abbrev Ent.kl (e : Ent) : List UInt8 := e.key.data.toList
def msz (m : Nat) : Nat := if m < 1 then 1 else m
def heldOf (L : List Ent) : Nat := (L.map (fun e => msz e.m)).sum

def nameB (j : Nat) : ByteArray := ⟨#[110, (48 + j).toUInt8]⟩
def holdB (i : Nat) : ByteArray := ⟨#[104, (49 + i).toUInt8]⟩

/-- The holders of match j. -/
def HOk (w : World) (κ : Nat → Nat) (h : Value) (j : Nat) : Prop :=
  ∃ ao cap, h = .slice ao (j % 4) cap ∧ (ao = none → cap = 0) ∧ (0 < j % 4 → ∃ b, ao = some ⟨b, 0, none⟩ ∧ κ b = 1 ∧ ∀ i, i < j % 4 → w.cell? ⟨b, i, none⟩ = some (.string (holdB i)))

/-- m matches, their hops as told. -/
def MOk (w : World) (κ : Nat → Nat) (v : Value) (m : Nat) (hop : Nat → Int) : Prop :=
  ∃ b cap, v = .slice (some ⟨b, 0, none⟩) m cap ∧ κ b = 1 ∧ b < w.heap.size ∧ ∀ j, j < m → w.cell? ⟨b, 3 * j, none⟩ = some (.string (nameB j)) ∧ w.cell? ⟨b, 3 * j + 1, none⟩ = some (.int .i64 (hop j)) ∧
    ∃ h, w.cell? ⟨b, 3 * j + 2, none⟩ = some h ∧ HOk w κ h j

def MsOk (w : World) (κ : Nat → Nat) (v : Value) (m : Nat) : Prop := (v = .slice none 0 0 ∧ m = 0) ∨ MOk w κ v m (fun _ => 0)

theorem HOk.frame {w w' : World} {κ κ' : Nat → Nat} {h : Value} {j : Nat} (H : HOk w κ h j) (hk : ∀ b, b < w.heap.size → κ b ≠ 0 → κ' b = κ b) (hf : ∀ b, b < w.heap.size → κ b = 1 → w'.heap[b]? = w.heap[b]?) : HOk w' κ' h j := by
  obtain ⟨ao, cap, rfl, hn, r⟩ := H
  refine ⟨ao, cap, rfl, hn, fun h0 => ?_⟩
  obtain ⟨b, rfl, kb, c⟩ := r h0
  have lt := cell_lt (c 0 h0)
  exact ⟨b, rfl, (hk b lt (by omega)).trans kb, fun i hi => (World.cell?_of_block (hf b lt kb)).trans (c i hi)⟩

theorem MOk.frame {w w' : World} {κ κ' : Nat → Nat} {v : Value} {m : Nat} {hop : Nat → Int} (H : MOk w κ v m hop) (hs : w.heap.size ≤ w'.heap.size) (hk : ∀ b, b < w.heap.size → κ b ≠ 0 → κ' b = κ b) (hf : ∀ b, b < w.heap.size → κ b = 1 → w'.heap[b]? = w.heap[b]?) : MOk w' κ' v m hop := by
  obtain ⟨b, cap, rfl, kb, lt, r⟩ := H
  refine ⟨b, cap, rfl, (hk b lt (by omega)).trans kb, by omega, fun j hj => ?_⟩
  obtain ⟨c0, c1, h, c2, hh⟩ := r j hj
  have e := fun i => World.cell?_of_block (a := ⟨b, i, none⟩) (hf b lt kb)
  exact ⟨(e _).trans c0, (e _).trans c1, h, (e _).trans c2, hh.frame hk hf⟩

theorem MsOk.frame {w w' : World} {κ κ' : Nat → Nat} {v : Value} {m : Nat} (H : MsOk w κ v m) (hs : w.heap.size ≤ w'.heap.size) (hk : ∀ b, b < w.heap.size → κ b ≠ 0 → κ' b = κ b) (hf : ∀ b, b < w.heap.size → κ b = 1 → w'.heap[b]? = w.heap[b]?) : MsOk w' κ' v m := by
  rcases H with h | h
  · exact Or.inl h
  · exact Or.inr (h.frame hs hk hf)

structure EntOk (w : World) (κ : Nat → Nat) (nb : Nat) (e : Ent) : Prop where
  ke : κ e.eb = 2
  we : Wr w e.eb
  c2 : w.cell? ⟨e.eb, 2, none⟩ = some (ptr nb 117)
  c3 : w.cell? ⟨e.eb, 3, none⟩ = some (.iface 102 (ptr e.ab 0))
  ka : κ e.ab = 3
  ans : w.heap[e.ab]? = some (.cells #[.string e.key, e.mv, .bool e.come, .int .i64 e.since] 105 (0, 0))
  ms : MsOk w κ e.mv e.m
  kz : e.key.size ≤ 100
  mz : e.m ≤ 6
  sz : 0 ≤ e.since ∧ e.since < 64

theorem EntOk.al {w : World} {κ : Nat → Nat} {nb : Nat} {e : Ent} (h : EntOk w κ nb e) : e.ab < w.heap.size := (Array.getElem?_eq_some_iff.1 h.ans).1

theorem EntOk.frame {w w' : World} {κ κ' : Nat → Nat} {nb : Nat} {e : Ent} (H : EntOk w κ nb e) (hs : w.heap.size ≤ w'.heap.size) (hk : ∀ b, b < w.heap.size → κ b ≠ 0 → κ' b = κ b) (hf : ∀ b, b < w.heap.size → κ b = 1 → w'.heap[b]? = w.heap[b]?)
    (we : Wr w' e.eb) (c2 : w'.cell? ⟨e.eb, 2, none⟩ = w.cell? ⟨e.eb, 2, none⟩) (c3 : w'.cell? ⟨e.eb, 3, none⟩ = w.cell? ⟨e.eb, 3, none⟩) (ha : w'.heap[e.ab]? = w.heap[e.ab]?) : EntOk w' κ' nb e :=
  ⟨(hk _ H.we.lt (by rw [H.ke]; decide)).trans H.ke, we, c2.trans H.c2, c3.trans H.c3, (hk _ H.al (by rw [H.ka]; decide)).trans H.ka, ha.trans H.ans, H.ms.frame hs hk hf, H.kz, H.mz, H.sz⟩

/-- The map holds just the list's elements by their keys. -/
structure MapOk (D : DataW Unit) (L : List Ent) : Prop where
  at' : ∀ e ∈ L, D.atKey (.string e.kl) .nil = .lit (.int .i64 e.eb)
  out : ∀ k, (∀ e ∈ L, e.kl ≠ k) → Maps.has D (.string k) = false
  ins : ∀ e ∈ L, Maps.has D (.string e.kl) = true
  size : Maps.size D = L.length

theorem MapOk.nil : MapOk (.map []) [] := ⟨by simp, fun _ _ => rfl, by simp, rfl⟩

theorem MapOk.same {D : DataW Unit} {L L' : List Ent} (h : MapOk D L) (h1 : ∀ e' ∈ L', ∃ e ∈ L, e.key = e'.key ∧ e.eb = e'.eb) (h2 : ∀ e ∈ L, ∃ e' ∈ L', e.key = e'.key) (h3 : L'.length = L.length) : MapOk D L' := by
  refine ⟨fun e' he' => ?_, fun k hk => h.out k (fun e he => ?_), fun e' he' => ?_, h.size.trans h3.symm⟩
  · obtain ⟨e, he, k1, k2⟩ := h1 e' he'
    have := h.at' e he
    rw [k2, Ent.kl, k1] at this
    exact this
  · obtain ⟨e', he', k1⟩ := h2 e he
    have := hk e' he'
    rw [Ent.kl, ← k1] at this
    exact this
  · obtain ⟨e, he, k1, _⟩ := h1 e' he'
    have := h.ins e he
    rw [Ent.kl, k1] at this
    exact this

theorem kl_inj {a b : ByteArray} (h : a.data.toList = b.data.toList) : a = b := by
  cases a; cases b
  simp at h
  simpa using h

theorem MapOk.put {D : DataW Unit} {L : List Ent} {e : Ent} (h : MapOk D L) (hT : Maps.Tidy D) (hk : ∀ x ∈ L, x.kl ≠ e.kl) : MapOk (D.put (.string e.kl) (.lit (.int .i64 e.eb))) (e :: L) := by
  have hkey : WideAt.IsKeyLit (.string e.kl) := by trivial
  refine ⟨fun x hx => ?_, fun k hk' => ?_, fun x hx => ?_, ?_⟩
  · rcases List.mem_cons.1 hx with rfl | hx
    · exact Maps.atKey_put_same hT.isMap hkey _ _
    · rw [Maps.atKey_put_other (by simpa using hk x hx)]
      exact h.at' x hx
  · have h0 : e.kl ≠ k := hk' e (by simp)
    rw [Maps.has_put_other (by simpa using Ne.symm h0)]
    exact h.out k (fun x hx => hk' x (by simp [hx]))
  · rcases List.mem_cons.1 hx with rfl | hx
    · exact Maps.has_put_same hT.isMap hkey _
    · rw [Maps.has_put_other (by simpa using hk x hx)]
      exact h.ins x hx
  · rw [Maps.size_put hT, h.out e.kl hk]
    simp [h.size]

theorem MapOk.del {D : DataW Unit} {l1 l2 : List Ent} {e : Ent} (h : MapOk D (l1 ++ e :: l2)) (hT : Maps.Tidy D) (hk : ∀ x ∈ l1 ++ l2, x.kl ≠ e.kl) : MapOk (D.del (.string e.kl)) (l1 ++ l2) := by
  have sub : ∀ x, x ∈ l1 ++ l2 → x ∈ l1 ++ e :: l2 := fun x hx => by simp at hx ⊢; rcases hx with h | h <;> simp [h]
  refine ⟨fun x hx => ?_, fun k hk' => ?_, fun x hx => ?_, ?_⟩
  · rw [Maps.atKey_del_other (by simpa using hk x hx)]
    exact h.at' x (sub x hx)
  · by_cases h0 : k = e.kl
    · subst h0; exact Maps.has_del_same
    · rw [Maps.has_del_other (by simpa using h0)]
      refine h.out k (fun x hx => ?_)
      simp at hx
      rcases hx with hx | rfl | hx
      · exact hk' x (by simp [hx])
      · exact fun hh => h0 hh.symm
      · exact hk' x (by simp [hx])
  · rw [Maps.has_del_other (by simpa using hk x hx)]
    exact h.ins x (sub x hx)
  · have := Maps.size_del (k := .string e.kl) hT
    rw [h.ins e (by simp), h.size] at this
    simp at this ⊢
    omega

/-- The node's answers: N, K, F its config; L the answers kept, the one used last first. κ tells the blocks apart: 1 matches, 2 elements, 3 answers, 4 the node, 5 the map; nought: not the node's. -/
structure Inv (w : World) (κ : Nat → Nat) (nb mb : Nat) (N K F : Int) (L : List Ent) : Prop where
  kn : κ nb = 4
  wn : Wr w nb
  cN : w.cell? ⟨nb, 112, none⟩ = some (.int .i64 N)
  cK : w.cell? ⟨nb, 113, none⟩ = some (.int .i64 K)
  cF : w.cell? ⟨nb, 114, none⟩ = some (.int .i64 F)
  ch : w.cell? ⟨nb, 115, none⟩ = some (.int .i64 (heldOf L))
  cm : w.cell? ⟨nb, 116, none⟩ = some (.map (some mb))
  cl : w.cell? ⟨nb, 121, none⟩ = some (.int .i64 L.length)
  ring : (L = [] ∧ w.cell? ⟨nb, 117, none⟩ = some (.pointer none) ∧ w.cell? ⟨nb, 118, none⟩ = some (.pointer none)) ∨ Chain w nb (nb :: L.map Ent.eb ++ [nb])
  km : κ mb = 5
  map : ∃ D, w.ownsMap Yba.prog 9 pElem mb (Maps.size D) D ∧ MapOk D L
  nd : (L.map Ent.eb).Nodup
  na : (L.map Ent.ab).Nodup
  nk : (L.map Ent.key).Nodup
  ents : ∀ e ∈ L, EntOk w κ nb e

/-- What a call leaves alone: all blocks that are not the node's, and the matches. -/
structure Fr (κ : Nat → Nat) (w w' : World) : Prop where
  os : w'.os = w.os
  tape : w'.tape = w.tape
  output : w'.output = w.output
  size : w.heap.size ≤ w'.heap.size
  block : ∀ b, b < w.heap.size → κ b ≤ 1 → w'.heap[b]? = w.heap[b]?

theorem Fr.refl (κ : Nat → Nat) (w : World) : Fr κ w w := ⟨rfl, rfl, rfl, Nat.le_refl _, fun _ _ _ => rfl⟩
theorem Fr.trans {κ κ' : Nat → Nat} {a b c : World} (h : Fr κ a b) (k : Fr κ' b c) (hk : ∀ i, i < a.heap.size → κ' i = κ i) : Fr κ a c :=
  ⟨k.os.trans h.os, k.tape.trans h.tape, k.output.trans h.output, Nat.le_trans h.size k.size, fun i hi h1 => (k.block i (Nat.lt_of_lt_of_le hi h.size) (by rw [hk i hi]; exact h1)).trans (h.block i hi h1)⟩
theorem Fr.of_grown {κ : Nat → Nat} {a b : World} (h : a.grownBy b none) : Fr κ a b := ⟨h.os, h.tape, h.output, h.size, fun i hi _ => h.block i hi (by simp)⟩
theorem Fr.of_grown_some {κ : Nat → Nat} {a b : World} {q : Nat} (h : a.grownBy b (some q)) (hq : 1 < κ q) : Fr κ a b := ⟨h.os, h.tape, h.output, h.size, fun i hi h1 => h.block i hi (fun e => by injection e with e; subst e; omega)⟩

theorem nb_not_el {w : World} {κ : Nat → Nat} {nb mb : Nat} {N K F : Int} {L : List Ent} (h : Inv w κ nb mb N K F L) : nb ∉ L.map Ent.eb := by
  intro hx
  obtain ⟨e, he, rfl⟩ := List.mem_map.1 hx
  have := (h.ents e he).ke
  rw [h.kn] at this
  cases this

/-- A block of the chain can be written. -/
theorem el_wr {w : World} {κ : Nat → Nat} {nb mb : Nat} {N K F : Int} {L : List Ent} (h : Inv w κ nb mb N K F L) {b : Nat} (hb : b = nb ∨ b ∈ L.map Ent.eb) : Wr w b ∧ (κ b = 4 ∨ κ b = 2) := by
  rcases hb with rfl | hb
  · exact ⟨h.wn, Or.inl h.kn⟩
  · obtain ⟨e, he, rfl⟩ := List.mem_map.1 hb
    exact ⟨(h.ents e he).we, Or.inr (h.ents e he).ke⟩

/-- The world has grown, and nothing of the node has turned. -/
theorem Inv.grow {w w' : World} {κ κ' : Nat → Nat} {nb mb : Nat} {N K F : Int} {L : List Ent} (h : Inv w κ nb mb N K F L) (hs : w.heap.size ≤ w'.heap.size) (hk : ∀ b, b < w.heap.size → κ b ≠ 0 → κ' b = κ b)
    (hf : ∀ b, b < w.heap.size → κ b ≠ 0 → w'.heap[b]? = w.heap[b]?) : Inv w' κ' nb mb N K F L := by
  have ln := h.wn.lt
  have kn0 : κ nb ≠ 0 := by rw [h.kn]; decide
  have hn := hf nb ln kn0
  have cn : ∀ i, w'.cell? ⟨nb, i, none⟩ = w.cell? ⟨nb, i, none⟩ := fun i => World.cell?_of_block hn
  have wr : ∀ b, κ b ≠ 0 → Wr w b → Wr w' b := fun b kb hw => by
    obtain ⟨c, T, hc⟩ := hw
    exact ⟨c, T, (hf b (Wr.lt ⟨c, T, hc⟩) kb).trans hc⟩
  have km0 : κ mb ≠ 0 := by rw [h.km]; decide
  obtain ⟨D, hD, hM⟩ := h.map
  refine ⟨(hk nb ln kn0).trans h.kn, wr nb kn0 h.wn, (cn _).trans h.cN, (cn _).trans h.cK, (cn _).trans h.cF, (cn _).trans h.ch, (cn _).trans h.cm, (cn _).trans h.cl, ?_, (hk mb hD.lt km0).trans h.km, ⟨D, ?_, hM⟩, h.nd, h.na, h.nk, fun e he => ?_⟩
  · rcases h.ring with ⟨r1, r2, r3⟩ | r
    · exact Or.inl ⟨r1, (cn _).trans r2, (cn _).trans r3⟩
    · refine Or.inr (chain_frame ?_ ?_ r)
      · intro x hx
        have hx' := el_wr h (b := x) (by rw [List.dropLast_concat] at hx; simpa using hx)
        exact World.cell?_of_block (hf x hx'.1.lt (by omega))
      · intro x hx
        have hx' := el_wr h (b := x) (by simp at hx; exact hx.symm.imp id (fun h => by simpa using h))
        exact World.cell?_of_block (hf x hx'.1.lt (by omega))
  · obtain ⟨es, clock, hb, r⟩ := hD
    exact ⟨es, clock, (hf mb (Array.getElem?_eq_some_iff.1 hb).1 km0).trans hb, r⟩
  · have E := h.ents e he
    have ke0 : κ e.eb ≠ 0 := by rw [E.ke]; decide
    have ka0 : κ e.ab ≠ 0 := by rw [E.ka]; decide
    have hfe := hf e.eb E.we.lt ke0
    refine ⟨(hk _ E.we.lt ke0).trans E.ke, wr _ ke0 E.we, (World.cell?_of_block hfe).trans E.c2, (World.cell?_of_block hfe).trans E.c3, (hk _ E.al ka0).trans E.ka, (hf _ E.al ka0).trans E.ans, ?_, E.kz, E.mz, E.sz⟩
    exact E.ms.frame hs hk (fun b lb kb => hf b lb (by omega))
end Go.Proofs.Ybulkdbks

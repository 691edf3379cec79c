import Derived.Test.YbulkdbksList
namespace Go.Proofs.Ybulkdbks
open Go Go.RowKit

/-- Where an element lies in its block: the root inside the node, all others at the start. -/
def off (nb b : Nat) : Nat := if b = nb then 117 else 0
theorem off_root (nb : Nat) : off nb nb = 117 := by simp [off]
theorem off_el {nb b : Nat} (h : b ≠ nb) : off nb b = 0 := by simp [off, h]
theorem off_cases (nb b : Nat) : (b = nb ∧ off nb b = 117) ∨ (b ≠ nb ∧ off nb b = 0) := by
  by_cases h : b = nb
  · exact Or.inl ⟨h, by simp [off, h]⟩
  · exact Or.inr ⟨h, by simp [off, h]⟩

def nextIs (w : World) (nb x y : Nat) : Prop := w.cell? ⟨x, off nb x, none⟩ = some (ptr y (off nb y))
def prevIs (w : World) (nb y x : Nat) : Prop := w.cell? ⟨y, off nb y + 1, none⟩ = some (ptr x (off nb x))

def Chain (w : World) (nb : Nat) : List Nat → Prop
  | x :: y :: t => (nextIs w nb x y ∧ prevIs w nb y x) ∧ Chain w nb (y :: t)
  | _ => True

theorem chain_append {w : World} {nb : Nat} : ∀ {a : List Nat} {x : Nat} {b : List Nat}, Chain w nb (a ++ x :: b) ↔ Chain w nb (a ++ [x]) ∧ Chain w nb (x :: b)
  | [], x, b => by simp [Chain]
  | [y], x, b => by simp [Chain]
  | y :: z :: a, x, b => by
    have := @chain_append w nb (z :: a) x b
    simp only [List.cons_append, Chain] at this ⊢
    rw [this]; simp only [and_assoc]

theorem chain_frame {w w' : World} {nb : Nat} : ∀ {l : List Nat}, (∀ x ∈ l.dropLast, w'.cell? ⟨x, off nb x, none⟩ = w.cell? ⟨x, off nb x, none⟩) → (∀ y ∈ l.tail, w'.cell? ⟨y, off nb y + 1, none⟩ = w.cell? ⟨y, off nb y + 1, none⟩) → Chain w nb l → Chain w' nb l
  | [], _, _, _ => trivial
  | [x], _, _, _ => trivial
  | x :: y :: t, h1, h2, h => by
    obtain ⟨⟨a, b⟩, c⟩ := h
    refine ⟨⟨(h1 x (by simp [List.dropLast])).trans a, (h2 y (by simp)).trans b⟩, chain_frame (fun z hz => h1 z (by simp [List.dropLast]; exact Or.inr hz)) (fun z hz => h2 z ?_) c⟩
    simp at hz ⊢
    exact Or.inr hz

theorem remW_cell {w : World} {lb lo eb pb po sb so b i : Nat} {n : Int} (h1 : ¬ (pb = b ∧ po = i)) (h2 : ¬ (sb = b ∧ so + 1 = i)) (h3 : ¬ (eb = b ∧ i < 3)) (h4 : ¬ (lb = b ∧ lo + 4 = i)) :
    (remW w lb lo eb pb po sb so n).cell? ⟨b, i, none⟩ = w.cell? ⟨b, i, none⟩ := by
  unfold remW
  rw [cs_ne rfl h4, cs_ne rfl (by omega), cs_ne rfl (by omega), cs_ne rfl (by omega), cs_ne rfl h2, cs_ne rfl h1]
theorem remW_p {w : World} {lb lo eb pb po sb so : Nat} {n : Int} {v0 : Value} (p0 : w.cell? ⟨pb, po, none⟩ = some v0) (hpe : pb ≠ eb) (hps : pb = sb → po = so) (hpl : pb = lb → po = lo) :
    (remW w lb lo eb pb po sb so n).cell? ⟨pb, po, none⟩ = some (ptr sb so) := by
  unfold remW
  rw [cs_ne rfl (by omega), cs_ne rfl (by omega), cs_ne rfl (by omega), cs_ne rfl (by omega), cs_ne rfl (by omega)]
  exact cs_eq rfl p0
theorem remW_s {w : World} {lb lo eb pb po sb so : Nat} {n : Int} {v1 : Value} (p1 : w.cell? ⟨sb, so + 1, none⟩ = some v1) (hse : sb ≠ eb) (hps : pb = sb → po = so) (hsl : sb = lb → so = lo) :
    (remW w lb lo eb pb po sb so n).cell? ⟨sb, so + 1, none⟩ = some (ptr pb po) := by
  unfold remW
  rw [cs_ne rfl (by omega), cs_ne rfl (by omega), cs_ne rfl (by omega), cs_ne rfl (by omega)]
  exact cs_eq rfl ((cs_ne rfl (by omega)).trans p1)
theorem remW_len {w : World} {lb lo eb pb po sb so : Nat} {n : Int} {v : Value} (l4 : w.cell? ⟨lb, lo + 4, none⟩ = some v) (_hle : lb ≠ eb) (hpl : pb = lb → po = lo) (hsl : sb = lb → so = lo) :
    (remW w lb lo eb pb po sb so n).cell? ⟨lb, lo + 4, none⟩ = some (.int .i64 (n - 1)) := by
  unfold remW
  exact cs_eq rfl ((cs_ne rfl (by omega)).trans ((cs_ne rfl (by omega)).trans ((cs_ne rfl (by omega)).trans ((cs_ne rfl (by omega)).trans ((cs_ne rfl (by omega)).trans l4)))))

theorem heap_set_ne {w : World} {b i b' : Nat} {v : Value} (h : b ≠ b') : (w.setCell ⟨b, i, none⟩ v).heap[b']? = w.heap[b']? := RowKit.Below.heap_setCell _ _ _ _ (Ne.symm h)
theorem remW_heap {w : World} {lb lo eb pb po sb so b : Nat} {n : Int} (h1 : pb ≠ b) (h2 : sb ≠ b) (h3 : eb ≠ b) (h4 : lb ≠ b) : (remW w lb lo eb pb po sb so n).heap[b]? = w.heap[b]? := by
  unfold remW
  rw [heap_set_ne h4, heap_set_ne h3, heap_set_ne h3, heap_set_ne h3, heap_set_ne h2, heap_set_ne h1]
theorem remW_wr {w : World} {lb lo eb pb po sb so b : Nat} {n : Int} (h : Wr w b) : Wr (remW w lb lo eb pb po sb so n) b := (((((h.set _ _ _).set _ _ _).set _ _ _).set _ _ _).set _ _ _).set _ _ _

/-- An element's neighbours. -/
theorem ring_split {nb : Nat} {l1 l2 : List Nat} {e : Nat} : ∃ A p s B, nb :: l1 = A ++ [p] ∧ l2 ++ [nb] = s :: B ∧ nb :: (l1 ++ e :: l2) ++ [nb] = A ++ p :: e :: s :: B := by
  obtain ⟨A, p, hA⟩ : ∃ A p, nb :: l1 = A ++ [p] := ⟨(nb :: l1).dropLast, (nb :: l1).getLast (by simp), (List.dropLast_concat_getLast (by simp)).symm⟩
  obtain ⟨s, B, hB⟩ : ∃ s B, l2 ++ [nb] = s :: B := by
    cases l2 with
    | nil => exact ⟨nb, [], rfl⟩
    | cons x t => exact ⟨x, t ++ [nb], rfl⟩
  refine ⟨A, p, s, B, hA, hB, ?_⟩
  have : nb :: (l1 ++ e :: l2) ++ [nb] = (nb :: l1) ++ e :: (l2 ++ [nb]) := by simp
  rw [this, hA, hB]
  simp

theorem mem_last {α : Type} {a A : List α} {p : α} {x : α} (h : x :: a = A ++ [p]) : p = x ∨ p ∈ a := by
  have : p ∈ x :: a := by rw [h]; simp
  simpa using this
theorem mem_head {α : Type} {a B : List α} {s : α} {x : α} (h : a ++ [x] = s :: B) : s = x ∨ s ∈ a := by
  have : s ∈ a ++ [x] := by rw [h]; simp
  simp at this
  exact this.symm

/-- The chain without e. -/
theorem chain_remove {w w' : World} {nb e p s : Nat} {l1 l2 A B : List Nat} (hA : nb :: l1 = A ++ [p]) (hB : l2 ++ [nb] = s :: B) (hnd : (l1 ++ e :: l2).Nodup) (hnb : nb ∉ l1 ++ e :: l2)
    (h : Chain w nb (A ++ p :: e :: s :: B)) (k1 : nextIs w' nb p s) (k4 : prevIs w' nb s p)
    (nx : ∀ x, x ≠ e → x ≠ p → w'.cell? ⟨x, off nb x, none⟩ = w.cell? ⟨x, off nb x, none⟩)
    (pv : ∀ y, y ≠ e → y ≠ s → w'.cell? ⟨y, off nb y + 1, none⟩ = w.cell? ⟨y, off nb y + 1, none⟩) : Chain w' nb (nb :: (l1 ++ l2) ++ [nb]) := by
  have hp := mem_last hA
  have hs := mem_head hB
  have hnd' := List.nodup_append.1 hnd
  have hnde := List.nodup_cons.1 hnd'.2.1
  have e1 : e ∉ l1 := fun hx => hnd'.2.2 e hx e (by simp) rfl
  have e2 : e ∉ l2 := hnde.1
  have d12 : ∀ x, x ∈ l1 → x ∉ l2 := fun x h1 h2 => hnd'.2.2 x h1 x (by simp [h2]) rfl
  have n1 : nb ∉ l1 := fun hx => hnb (by simp [hx])
  have n2 : nb ∉ l2 := fun hx => hnb (by simp [hx])
  have ne : nb ≠ e := fun hx => hnb (by simp [hx])
  obtain ⟨c1, c2⟩ := chain_append.1 h
  obtain ⟨_, _, c3⟩ := c2
  have full : nb :: (l1 ++ l2) ++ [nb] = A ++ p :: s :: B := by
    have : nb :: (l1 ++ l2) ++ [nb] = (nb :: l1) ++ (l2 ++ [nb]) := by simp
    rw [this, hA, hB]; simp
  have AinL : ∀ x, x ∈ A → x = nb ∨ x ∈ l1 := fun x hx => by
    have : x ∈ nb :: l1 := by rw [hA]; simp [hx]
    simpa using this
  have pA : p ∉ A := by
    have : (nb :: l1).Nodup := List.nodup_cons.2 ⟨n1, hnd'.1⟩
    rw [hA] at this
    have := (List.nodup_append.1 this).2.2
    exact fun hx => this p hx p (by simp) rfl
  have sB : s ∉ B := by
    have : (l2 ++ [nb]).Nodup := List.nodup_append.2 ⟨hnde.2, by simp, fun a ha b hb => by simp at hb; subst hb; exact fun hx => n2 (hx ▸ ha)⟩
    rw [hB] at this
    exact (List.nodup_cons.1 this).1
  have BinL : ∀ x, x ∈ B → x = nb ∨ x ∈ l2 := fun x hx => by
    have : x ∈ l2 ++ [nb] := by rw [hB]; simp [hx]
    simp at this
    exact this.symm
  rw [full]
  refine chain_append.2 ⟨chain_frame ?_ ?_ c1, ⟨⟨k1, k4⟩, chain_frame ?_ ?_ c3⟩⟩
  · intro x hx
    simp at hx
    exact nx x (fun hxe => by rcases AinL x hx with h | h; exact ne (by rw [← h, hxe]); exact e1 (hxe ▸ h)) (fun hxp => pA (hxp ▸ hx))
  · intro y hy
    rw [← hA] at hy
    simp at hy
    refine pv y (fun h => e1 (h ▸ hy)) (fun hh => ?_)
    rcases hs with h' | h'
    · exact n1 (h' ▸ hh ▸ hy)
    · exact d12 y hy (hh ▸ h')
  · intro x hx
    rw [← hB] at hx
    simp at hx
    refine nx x (fun h => e2 (h ▸ hx)) (fun hh => ?_)
    rcases hp with h' | h'
    · exact n2 (h' ▸ hh ▸ hx)
    · exact d12 p h' (hh ▸ hx)
  · intro y hy
    simp at hy
    exact pv y (fun hye => by rcases BinL y hy with h | h; exact ne (by rw [← h, hye]); exact e2 (hye ▸ h)) (fun h => sB (h ▸ hy))

/-- The chain with e in front. -/
theorem chain_insert {w w' : World} {nb e f : Nat} {l B : List Nat} (hB : l ++ [nb] = f :: B) (hnd : l.Nodup) (hnb : nb ∉ l) (he : e ∉ l) (hne : e ≠ nb)
    (h : Chain w nb (nb :: l ++ [nb])) (k1 : nextIs w' nb nb e) (k2 : prevIs w' nb e nb) (k3 : nextIs w' nb e f) (k4 : prevIs w' nb f e)
    (nx : ∀ x, x ≠ e → x ≠ nb → w'.cell? ⟨x, off nb x, none⟩ = w.cell? ⟨x, off nb x, none⟩)
    (pv : ∀ y, y ≠ e → y ≠ f → w'.cell? ⟨y, off nb y + 1, none⟩ = w.cell? ⟨y, off nb y + 1, none⟩) : Chain w' nb (nb :: (e :: l) ++ [nb]) := by
  have e1 : nb :: l ++ [nb] = nb :: f :: B := by rw [List.cons_append, hB]
  have e2 : nb :: (e :: l) ++ [nb] = nb :: e :: f :: B := by rw [List.cons_append, List.cons_append, hB]
  rw [e1] at h
  rw [e2]
  have fB : f ∉ B := by
    have : (l ++ [nb]).Nodup := List.nodup_append.2 ⟨hnd, by simp, fun a ha b hb => by simp at hb; subst hb; exact fun hx => hnb (hx ▸ ha)⟩
    rw [hB] at this
    exact (List.nodup_cons.1 this).1
  refine ⟨⟨k1, k2⟩, ⟨k3, k4⟩, chain_frame ?_ ?_ h.2⟩
  · intro x hx
    rw [← hB] at hx
    simp at hx
    exact nx x (fun h => he (h ▸ hx)) (fun h => hnb (h ▸ hx))
  · intro y hy
    simp at hy
    have : y ∈ l ++ [nb] := by rw [hB]; simp [hy]
    simp at this
    exact pv y (fun h => by rcases this with h' | h'; exact he (h ▸ h'); exact hne (by rw [← h, h'])) (fun h => fB (h ▸ hy))

/-- What lies at an element of the ring. -/
theorem ring_at {w : World} {nb e p s : Nat} {A B : List Nat} (h : Chain w nb (A ++ p :: e :: s :: B)) : nextIs w nb p e ∧ prevIs w nb e p ∧ nextIs w nb e s ∧ prevIs w nb s e := by
  obtain ⟨_, ⟨k1, k2⟩, ⟨k3, k4⟩, _⟩ := chain_append.1 h
  exact ⟨k1, k2, k3, k4⟩

theorem chain_remW {w : World} {nb e p s : Nat} {l1 l2 A B : List Nat} {n : Int} (hA : nb :: l1 = A ++ [p]) (hB : l2 ++ [nb] = s :: B) (hnd : (l1 ++ e :: l2).Nodup) (hnb : nb ∉ l1 ++ e :: l2)
    (h : Chain w nb (A ++ p :: e :: s :: B)) (hpe : p ≠ e) (hse : s ≠ e) : Chain (remW w nb 117 e p (off nb p) s (off nb s) n) nb (nb :: (l1 ++ l2) ++ [nb]) := by
  obtain ⟨k1, k2, k3, k4⟩ := ring_at h
  have op := off_cases nb p
  have os := off_cases nb s
  have hps : p = s → off nb p = off nb s := fun e => by rw [e]
  have hpl : p = nb → off nb p = 117 := fun e => by rw [e, off_root]
  have hsl : s = nb → off nb s = 117 := fun e => by rw [e, off_root]
  refine chain_remove hA hB hnd hnb h (remW_p k1 hpe hps hpl) (remW_s k4 hse hps hsl) ?_ ?_
  · intro x h1 h2
    refine remW_cell (by omega) ?_ (by omega) ?_
    · rintro ⟨rfl, h⟩; omega
    · rintro ⟨rfl, h⟩; rw [off_root] at h; omega
  · intro y h1 h2
    refine remW_cell ?_ (by omega) (by omega) ?_
    · rintro ⟨rfl, h⟩; omega
    · rintro ⟨rfl, h⟩; rw [off_root] at h; omega

theorem insW_cell {w : World} {lb lo eb sb so b i : Nat} {n : Int} (h1 : ¬ (lb = b ∧ lo = i)) (h2 : ¬ (sb = b ∧ so + 1 = i)) (h3 : ¬ (eb = b ∧ i < 3)) (h4 : ¬ (lb = b ∧ lo + 4 = i)) :
    (insW w lb lo eb sb so n).cell? ⟨b, i, none⟩ = w.cell? ⟨b, i, none⟩ := by
  unfold insW
  rw [cs_ne rfl h4, cs_ne rfl (by omega), cs_ne rfl h2, cs_ne rfl h1, cs_ne rfl (by omega), cs_ne rfl (by omega)]
theorem insW_heap {w : World} {lb lo eb sb so b : Nat} {n : Int} (h2 : sb ≠ b) (h3 : eb ≠ b) (h4 : lb ≠ b) : (insW w lb lo eb sb so n).heap[b]? = w.heap[b]? := by
  unfold insW
  rw [heap_set_ne h4, heap_set_ne h3, heap_set_ne h2, heap_set_ne h4, heap_set_ne h3, heap_set_ne h3]
theorem insW_wr {w : World} {lb lo eb sb so b : Nat} {n : Int} (h : Wr w b) : Wr (insW w lb lo eb sb so n) b := (((((h.set _ _ _).set _ _ _).set _ _ _).set _ _ _).set _ _ _).set _ _ _

theorem insW_cells {w : World} {lb lo eb sb so : Nat} {n : Int} {v0 v1 v2 v3 v4 v5 : Value} (e0 : w.cell? ⟨eb, 0, none⟩ = some v0) (e1 : w.cell? ⟨eb, 1, none⟩ = some v1) (e2 : w.cell? ⟨eb, 2, none⟩ = some v2)
    (l0 : w.cell? ⟨lb, lo, none⟩ = some v3) (s1 : w.cell? ⟨sb, so + 1, none⟩ = some v4) (l4 : w.cell? ⟨lb, lo + 4, none⟩ = some v5) (hse : sb ≠ eb) (hle : lb ≠ eb) (hsl : sb = lb → so = lo) :
    (insW w lb lo eb sb so n).cell? ⟨eb, 0, none⟩ = some (ptr sb so) ∧ (insW w lb lo eb sb so n).cell? ⟨eb, 1, none⟩ = some (ptr lb lo) ∧ (insW w lb lo eb sb so n).cell? ⟨eb, 2, none⟩ = some (ptr lb lo) ∧
    (insW w lb lo eb sb so n).cell? ⟨lb, lo, none⟩ = some (ptr eb 0) ∧ (insW w lb lo eb sb so n).cell? ⟨sb, so + 1, none⟩ = some (ptr eb 0) ∧ (insW w lb lo eb sb so n).cell? ⟨lb, lo + 4, none⟩ = some (.int .i64 (n + 1)) := by
  unfold insW
  refine ⟨?_, ?_, ?_, ?_, ?_, ?_⟩
  · rw [cs_ne rfl (by omega), cs_ne rfl (by omega), cs_ne rfl (by omega), cs_ne rfl (by omega)]
    exact cs_eq rfl ((cs_ne rfl (by omega)).trans e0)
  · rw [cs_ne rfl (by omega), cs_ne rfl (by omega), cs_ne rfl (by omega), cs_ne rfl (by omega), cs_ne rfl (by omega)]
    exact cs_eq rfl e1
  · rw [cs_ne rfl (by omega)]
    exact cs_eq rfl ((cs_ne rfl (by omega)).trans ((cs_ne rfl (by omega)).trans ((cs_ne rfl (by omega)).trans ((cs_ne rfl (by omega)).trans e2))))
  · rw [cs_ne rfl (by omega), cs_ne rfl (by omega), cs_ne rfl (by omega)]
    exact cs_eq rfl ((cs_ne rfl (by omega)).trans ((cs_ne rfl (by omega)).trans l0))
  · rw [cs_ne rfl (by omega), cs_ne rfl (by omega)]
    exact cs_eq rfl ((cs_ne rfl (by omega)).trans ((cs_ne rfl (by omega)).trans ((cs_ne rfl (by omega)).trans s1)))
  · exact cs_eq rfl ((cs_ne rfl (by omega)).trans ((cs_ne rfl (by omega)).trans ((cs_ne rfl (by omega)).trans ((cs_ne rfl (by omega)).trans ((cs_ne rfl (by omega)).trans l4)))))

theorem chain_head {w : World} {nb f : Nat} {l B : List Nat} (hB : l ++ [nb] = f :: B) (h : Chain w nb (nb :: l ++ [nb])) : nextIs w nb nb f ∧ prevIs w nb f nb := by
  rw [List.cons_append, hB] at h
  exact h.1

theorem chain_insW {w : World} {nb e f : Nat} {l B : List Nat} {n : Int} {v0 v1 v2 v5 : Value} (hB : l ++ [nb] = f :: B) (hnd : l.Nodup) (hnb : nb ∉ l) (he : e ∉ l) (hne : e ≠ nb)
    (h : Chain w nb (nb :: l ++ [nb])) (e0 : w.cell? ⟨e, 0, none⟩ = some v0) (e1 : w.cell? ⟨e, 1, none⟩ = some v1) (e2 : w.cell? ⟨e, 2, none⟩ = some v2) (l4 : w.cell? ⟨nb, 121, none⟩ = some v5) :
    Chain (insW w nb 117 e f (off nb f) n) nb (nb :: (e :: l) ++ [nb]) := by
  obtain ⟨k1, k2⟩ := chain_head hB h
  have hf := mem_head hB
  have hfe : f ≠ e := by rcases hf with rfl | hf; exact hne.symm; exact fun hx => he (hx ▸ hf)
  have of := off_cases nb f
  have hk1 : w.cell? ⟨nb, 117, none⟩ = some (ptr f (off nb f)) := by have := k1; unfold nextIs at this; rwa [off_root] at this
  obtain ⟨c0, c1, c2, c3, c4, c5⟩ := insW_cells (n := n) e0 e1 e2 hk1 k2 l4 hfe hne.symm (fun h => by rw [h, off_root])
  have oe := off_el hne
  refine chain_insert hB hnd hnb he hne h ?_ ?_ ?_ ?_ ?_ ?_
  · unfold nextIs; rw [off_root, oe]; exact c3
  · unfold prevIs; rw [off_root, oe]; exact c1
  · unfold nextIs; rw [oe]; exact c0
  · unfold prevIs; rw [oe]; exact c4
  · intro x h1 h2
    refine insW_cell (by omega) ?_ (by omega) (by omega)
    rintro ⟨rfl, h⟩; omega
  · intro y h1 h2
    refine insW_cell ?_ (by omega) (by omega) ?_
    · rintro ⟨rfl, h⟩; rw [off_root] at h; omega
    · rintro ⟨rfl, h⟩; rw [off_root] at h; omega

theorem movW_cell {w : World} {lb lo eb pb po sb so fb fo b i : Nat} (h1 : ¬ (pb = b ∧ po = i)) (h2 : ¬ (sb = b ∧ so + 1 = i)) (h3 : ¬ (eb = b ∧ i < 2)) (h4 : ¬ (lb = b ∧ lo = i)) (h5 : ¬ (fb = b ∧ fo + 1 = i)) :
    (movW w lb lo eb pb po sb so fb fo).cell? ⟨b, i, none⟩ = w.cell? ⟨b, i, none⟩ := by
  unfold movW
  rw [cs_ne rfl h5, cs_ne rfl h4, cs_ne rfl (by omega), cs_ne rfl (by omega), cs_ne rfl h2, cs_ne rfl h1]
theorem movW_heap {w : World} {lb lo eb pb po sb so fb fo b : Nat} (h1 : pb ≠ b) (h2 : sb ≠ b) (h3 : eb ≠ b) (h4 : lb ≠ b) (h5 : fb ≠ b) : (movW w lb lo eb pb po sb so fb fo).heap[b]? = w.heap[b]? := by
  unfold movW
  rw [heap_set_ne h5, heap_set_ne h4, heap_set_ne h3, heap_set_ne h3, heap_set_ne h2, heap_set_ne h1]
theorem movW_wr {w : World} {lb lo eb pb po sb so fb fo b : Nat} (h : Wr w b) : Wr (movW w lb lo eb pb po sb so fb fo) b := (((((h.set _ _ _).set _ _ _).set _ _ _).set _ _ _).set _ _ _).set _ _ _

theorem chain_movW {w : World} {nb e p s f : Nat} {l1 l2 A B C : List Nat} (hA : nb :: l1 = A ++ [p]) (hB : l2 ++ [nb] = s :: B) (hC : (l1 ++ l2) ++ [nb] = f :: C) (hnd : (l1 ++ e :: l2).Nodup) (hnb : nb ∉ l1 ++ e :: l2)
    (h : Chain w nb (A ++ p :: e :: s :: B)) (hpe : p ≠ e) (hse : s ≠ e) (hpn : p ≠ nb) :
    Chain (movW w nb 117 e p (off nb p) s (off nb s) f (off nb f)) nb (nb :: (e :: (l1 ++ l2)) ++ [nb]) := by
  obtain ⟨k1, k2, k3, k4⟩ := ring_at h
  have op := off_cases nb p
  have os := off_cases nb s
  have of := off_cases nb f
  have hps : p = s → off nb p = off nb s := fun e => by rw [e]
  have hsl : s = nb → off nb s = 117 := fun e => by rw [e, off_root]
  have ne : e ≠ nb := fun hx => hnb (by simp [hx])
  have hnd' := List.nodup_append.1 hnd
  have hnde := List.nodup_cons.1 hnd'.2.1
  have hl : (l1 ++ l2).Nodup := List.nodup_append.2 ⟨hnd'.1, hnde.2, fun a ha b hb => hnd'.2.2 a ha b (by simp [hb])⟩
  have e1 : e ∉ l1 ++ l2 := fun hx => by
    simp at hx
    rcases hx with hx | hx
    · exact hnd'.2.2 e hx e (by simp) rfl
    · exact hnde.1 hx
  have n1 : nb ∉ l1 ++ l2 := fun hx => by
    simp at hx
    rcases hx with hx | hx
    · exact hnb (by simp [hx])
    · exact hnb (by simp [hx])
  have hf := mem_head hC
  have hfe : f ≠ e := by rcases hf with h' | h'; exact fun hx => ne (by rw [← hx, h']); exact fun hx => e1 (hx ▸ h')
  obtain ⟨w1, hw1⟩ : ∃ w1, w1 = w.setCell ⟨p, off nb p, none⟩ (ptr s (off nb s)) := ⟨_, rfl⟩
  obtain ⟨w2, hw2⟩ : ∃ w2, w2 = w1.setCell ⟨s, off nb s + 1, none⟩ (ptr p (off nb p)) := ⟨_, rfl⟩
  have k3' : w2.cell? ⟨e, 0, none⟩ = some (ptr s (off nb s)) := by
    unfold nextIs at k3; rw [off_el ne] at k3
    exact (cs_ne hw2 (by omega)).trans ((cs_ne hw1 (by omega)).trans k3)
  have k2' : w2.cell? ⟨e, 1, none⟩ = some (ptr p (off nb p)) := by
    unfold prevIs at k2; rw [off_el ne] at k2
    exact (cs_ne hw2 (by omega)).trans ((cs_ne hw1 (by omega)).trans k2)
  have c2 : Chain w2 nb (nb :: (l1 ++ l2) ++ [nb]) := by
    refine chain_remove hA hB hnd hnb h ((cs_ne hw2 (by omega)).trans (cs_eq hw1 k1)) (cs_eq hw2 ((cs_ne hw1 (by omega)).trans k4)) ?_ ?_
    · intro x h1 h2
      refine (cs_ne hw2 ?_).trans (cs_ne hw1 (by omega))
      rintro ⟨rfl, h⟩; omega
    · intro y h1 h2
      refine (cs_ne hw2 (by omega)).trans (cs_ne hw1 ?_)
      rintro ⟨rfl, h⟩; omega
  obtain ⟨j1, j2⟩ := chain_head hC c2
  unfold nextIs at j1; rw [off_root] at j1
  unfold movW
  rw [← hw1, ← hw2]
  clear hw1 hw2
  obtain ⟨w3, hw3⟩ : ∃ w3, w3 = w2.setCell ⟨e, 1, none⟩ (ptr nb 117) := ⟨_, rfl⟩
  rw [← hw3]
  obtain ⟨w4, hw4⟩ : ∃ w4, w4 = w3.setCell ⟨e, 0, none⟩ (ptr f (off nb f)) := ⟨_, rfl⟩
  rw [← hw4]
  obtain ⟨w5, hw5⟩ : ∃ w5, w5 = w4.setCell ⟨nb, 117, none⟩ (ptr e 0) := ⟨_, rfl⟩
  rw [← hw5]
  obtain ⟨w6, hw6⟩ : ∃ w6, w6 = w5.setCell ⟨f, off nb f + 1, none⟩ (ptr e 0) := ⟨_, rfl⟩
  rw [← hw6]
  refine chain_insert hC hl n1 e1 ne c2 ?_ ?_ ?_ ?_ ?_ ?_
  · unfold nextIs; rw [off_root, off_el ne]
    exact (cs_ne hw6 (by omega)).trans (cs_eq hw5 ((cs_ne hw4 (by omega)).trans ((cs_ne hw3 (by omega)).trans j1)))
  · unfold prevIs; rw [off_root, off_el ne]
    exact (cs_ne hw6 (by omega)).trans ((cs_ne hw5 (by omega)).trans ((cs_ne hw4 (by omega)).trans (cs_eq hw3 k2')))
  · unfold nextIs; rw [off_el ne]
    exact (cs_ne hw6 (by omega)).trans ((cs_ne hw5 (by omega)).trans (cs_eq hw4 ((cs_ne hw3 (by omega)).trans k3')))
  · unfold prevIs; rw [off_el ne]
    exact cs_eq hw6 ((cs_ne hw5 (by omega)).trans ((cs_ne hw4 (by omega)).trans ((cs_ne hw3 (by omega)).trans j2)))
  · intro x h1 h2
    refine (cs_ne hw6 ?_).trans ((cs_ne hw5 (by omega)).trans ((cs_ne hw4 (by omega)).trans (cs_ne hw3 (by omega))))
    rintro ⟨rfl, h⟩; omega
  · intro y h1 h2
    refine (cs_ne hw6 (by omega)).trans ((cs_ne hw5 ?_).trans ((cs_ne hw4 (by omega)).trans (cs_ne hw3 (by omega))))
    rintro ⟨rfl, h⟩; rw [off_root] at h; omega

/-- A world that is another but for its draws. -/
theorem chain_dr {w : World} {nb d : Nat} {l : List Nat} (h : Chain w nb l) : Chain (dr w d) nb l := chain_frame (w := w) (w' := dr w d) (fun _ _ => rfl) (fun _ _ => rfl) h
end Go.Proofs.Ybulkdbks

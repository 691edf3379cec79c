import Derived.WalkKit
/-! Plain functions of the seat: what the Go functions compute, on lists of bytes. No program in sight. -/
namespace Go.Proofs.Ybulkdbgy
open Go.RowKit

theorem ret_bool {a b : Bool} (h : a = b) : Ending.returned (.bool a) = .returned (.bool b) := by rw [h]
theorem ret_int {k : IntKind} {a b : Int} (h : a = b) : Ending.returned (.int k a) = .returned (.int k b) := by rw [h]

def letB (c : Int) : Bool := decide ((97 ≤ c ∧ c ≤ 122) ∨ (65 ≤ c ∧ c ≤ 90))
def nameB (c : Int) : Bool := letB c || decide (48 ≤ c ∧ c ≤ 57) || decide (c = 95)
def nameL : List UInt8 → Bool
  | [] => false
  | c :: r => letB (c.toNat : Int) && r.all (fun d => nameB (d.toNat : Int))
def phNameL (l : List UInt8) : Bool := l == [42] || nameL l
def phL (l : List UInt8) : Bool := decide (2 < l.length) && (l.head? == some 60) && (l.getLast? == some 62) && phNameL (l.drop 1).dropLast

def hstep (h : Int) (c : UInt8) : Int := IntKind.u64.wrap (bits .xor .u64 h (IntKind.u64.wrap (c.toNat : Int)) * 1099511628211)
def hashL (l : List UInt8) : Int := l.foldl hstep 14695981039346656037

theorem wrap_bd (n : Int) : 0 ≤ IntKind.u64.wrap n ∧ IntKind.u64.wrap n < 18446744073709551616 := by
  rw [IntKind.wrap_u64]; omega

theorem hashL_bd (l : List UInt8) : 0 ≤ hashL l ∧ hashL l < 18446744073709551616 := by
  unfold hashL
  rcases List.eq_nil_or_concat l with rfl | ⟨r, c, rfl⟩
  · decide
  · rw [List.concat_eq_append, List.foldl_append]; exact wrap_bd _

theorem take_snoc (s : ByteArray) (k : Nat) (h : k < s.size) : s.data.toList.take (k + 1) = s.data.toList.take k ++ [s[k]] := by
  rw [List.take_succ_eq_append_getElem (by simpa using h)]; rfl

theorem hashL_snoc (l : List UInt8) (c : UInt8) : hashL (l ++ [c]) = hstep (hashL l) c := by
  simp [hashL, List.foldl_append]

/-- The bit that a word picks, as a number below 64. -/
def bitL (l : List UInt8) : Nat := (hashL l).toNat % 64
/-- The set of a list of words, as a natural number. -/
def wstep (n : Nat) (l : List UInt8) : Nat := if phL l then n else n ||| 2 ^ bitL l
def wbN (ls : List (List UInt8)) : Nat := ls.foldl wstep 1

theorem bitL_lt (l : List UInt8) : bitL l < 64 := Nat.mod_lt _ (by decide)

theorem wstep_lt (n : Nat) (l : List UInt8) (h : n < 2 ^ 64) : wstep n l < 2 ^ 64 := by
  unfold wstep
  split
  · exact h
  · exact Nat.or_lt_two_pow h (Nat.pow_lt_pow_right (by decide) (bitL_lt l))

theorem foldl_lt (ls : List (List UInt8)) (n : Nat) (h : n < 2 ^ 64) : ls.foldl wstep n < 2 ^ 64 := by
  induction ls generalizing n with
  | nil => exact h
  | cons l r ih => exact ih _ (wstep_lt n l h)

theorem wbN_lt (ls : List (List UInt8)) : wbN ls < 2 ^ 64 := foldl_lt ls 1 (by decide)

theorem wbN_snoc (ls : List (List UInt8)) (l : List UInt8) : wbN (ls ++ [l]) = wstep (wbN ls) l := by simp [wbN, List.foldl_append]

/-- Bit i of the set: it was there, or a word that is no placeholder picks it. -/
theorem testBit_foldl (ls : List (List UInt8)) (n i : Nat) : (ls.foldl wstep n).testBit i = (n.testBit i || ls.any (fun l => !phL l && decide (bitL l = i))) := by
  induction ls generalizing n with
  | nil => simp
  | cons l r ih =>
    rw [List.foldl_cons, ih, List.any_cons, ← Bool.or_assoc]
    congr 1
    unfold wstep
    cases h : phL l
    · simp [Nat.testBit_or, Nat.testBit_two_pow]
    · simp

theorem wbN_bit (ls : List (List UInt8)) (i : Nat) : (wbN ls).testBit i = ((1 : Nat).testBit i || ls.any (fun l => !phL l && decide (bitL l = i))) := testBit_foldl ls 1 i

theorem wbN_nil : wbN [] = 1 := rfl

theorem wbN_and_one (ls : List (List UInt8)) : wbN ls &&& 1 = 1 := by
  have h := wbN_bit ls 0
  rw [Nat.and_one_is_mod]
  simp [Nat.testBit_zero] at h
  omega

/-- The list that the law of the order makes: each word twice, from the last to the first, then two placeholders. -/
def dbl (ls : List (List UInt8)) : List (List UInt8) := ls.reverse.flatMap (fun l => [l, l])

theorem ph1 : phL [60, 42, 62] = true := by decide
theorem ph2 : phL [60, 120, 95, 49, 62] = true := by decide

theorem order_law (ls : List (List UInt8)) : wbN (dbl ls ++ [[60, 42, 62], [60, 120, 95, 49, 62]]) = wbN ls := by
  apply Nat.eq_of_testBit_eq
  intro i
  rw [wbN_bit, wbN_bit]
  congr 1
  rw [List.any_append]
  simp only [List.any_cons, List.any_nil, ph1, ph2]
  simp only [Bool.not_true, Bool.false_and, Bool.or_false]
  rw [Bool.eq_iff_iff]
  simp only [dbl, List.any_eq_true, List.mem_flatMap, List.mem_reverse]
  constructor
  · rintro ⟨x, ⟨y, hy, hx⟩, h⟩
    have : x = y := by simpa using hx
    exact ⟨y, hy, this ▸ h⟩
  · rintro ⟨x, hx, h⟩
    exact ⟨x, ⟨x, hx, by simp⟩, h⟩

end Go.Proofs.Ybulkdbgy

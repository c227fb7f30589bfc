import Derived.Test.Qxb6602266aProg
import Derived.WalkKit
import Derived.WalkSpells
import Derived.WalkLawsBesides
import Derived.Lib.Strings
import Derived.Lib.SmallJoins
import Derived.Deep.OwnRows
import Derived.PlainAid
namespace Go.Proofs.Qxb6602266a
open Go.RowKit Go.PlainAid
set_option linter.unusedVariables false

/-! ### wrapping -/
theorem wrap_add_mul (a k : Int) : wrap64 (a + k * 18446744073709551616) = wrap64 a := by
  unfold wrap64; omega
theorem wrap_is (a : Int) : ∃ k : Int, wrap64 a = a + k * 18446744073709551616 :=
  ⟨-((a + 9223372036854775808) / 18446744073709551616), by unfold wrap64; omega⟩
theorem wrap_wrap (a : Int) : wrap64 (wrap64 a) = wrap64 a := by unfold wrap64; omega
theorem wrap_mul_right (d p : Int) : wrap64 (d * wrap64 p) = wrap64 (d * p) := by
  obtain ⟨k, hk⟩ := wrap_is p
  rw [hk, Int.mul_add, ← Int.mul_assoc, wrap_add_mul]
theorem wrap_mul_left (d p : Int) : wrap64 (wrap64 p * d) = wrap64 (p * d) := by
  rw [Int.mul_comm, wrap_mul_right, Int.mul_comm]
theorem wrap_add_left (a b : Int) : wrap64 (wrap64 a + b) = wrap64 (a + b) := by unfold wrap64; omega
theorem wrap_add_right (a b : Int) : wrap64 (a + wrap64 b) = wrap64 (a + b) := by unfold wrap64; omega

/-! ### the groups of a layout -/
/-- How many separators stand ahead of place k. -/
def sepN (l : ByteArray) : Nat → Nat
  | 0 => 0
  | k + 1 => sepN l k + if bt l k = 48 then 0 else 1

theorem sepN_sep {l : ByteArray} {k : Nat} (h : ¬ bt l k = 48) : sepN l (k + 1) = sepN l k + 1 := by
  show sepN l k + (if bt l k = 48 then 0 else 1) = _
  rw [if_neg h]
theorem sepN_zero {l : ByteArray} {k : Nat} (h : bt l k = 48) : sepN l (k + 1) = sepN l k := by
  show sepN l k + (if bt l k = 48 then 0 else 1) = _
  rw [if_pos h]; rfl
theorem sepN_mono (l : ByteArray) {i k : Nat} (h : i ≤ k) : sepN l i ≤ sepN l k := by
  induction k with
  | zero => have : i = 0 := by omega
            subst this; exact Nat.le_refl _
  | succ k ih =>
    by_cases e : i = k + 1
    · subst e; exact Nat.le_refl _
    · have := ih (by omega)
      show sepN l i ≤ sepN l k + _
      omega
theorem sepN_le (l : ByteArray) (k : Nat) : sepN l k ≤ k := by
  induction k with
  | zero => exact Nat.le_refl _
  | succ k ih =>
    show sepN l k + (if bt l k = 48 then 0 else 1) ≤ k + 1
    split <;> omega

/-- At most two separators ahead of each 0. -/
def Safe (l : ByteArray) : Prop := ∀ i, i < l.size → bt l i = 48 → sepN l i ≤ 2

/-- The number of group j after k places, read from the left, without bound. -/
def H (s l : ByteArray) (j : Nat) : Nat → Int
  | 0 => 0
  | k + 1 => if bt l k = 48 ∧ sepN l k = j then H s l j k * 10 + (bt s k - 48) else H s l j k

theorem H_digit {s l : ByteArray} {j k : Nat} (h : bt l k = 48) (hj : sepN l k = j) : H s l j (k + 1) = H s l j k * 10 + (bt s k - 48) := by
  show (if bt l k = 48 ∧ sepN l k = j then _ else _) = _
  rw [if_pos ⟨h, hj⟩]
theorem H_other {s l : ByteArray} {j k : Nat} (h : ¬ (bt l k = 48 ∧ sepN l k = j)) : H s l j (k + 1) = H s l j k := by
  show (if bt l k = 48 ∧ sepN l k = j then _ else _) = _
  rw [if_neg h]

/-- .. as Go's int holds it. -/
def V (s l : ByteArray) (k j : Nat) : Int := wrap64 (H s l j k)

theorem V_digit {s l : ByteArray} {j k : Nat} (h : bt l k = 48) (hj : sepN l k = j) : V s l (k + 1) j = wrap64 (wrap64 (V s l k j * 10) + (bt s k - 48)) := by
  unfold V
  rw [H_digit h hj, wrap_add_left, ← wrap_add_left (_ * 10), ← wrap_mul_left, wrap_add_left]
theorem V_other {s l : ByteArray} {j k : Nat} (h : ¬ (bt l k = 48 ∧ sepN l k = j)) : V s l (k + 1) j = V s l k j := by
  unfold V
  rw [H_other h]
theorem V_zero (s l : ByteArray) (j : Nat) : V s l 0 j = 0 := by unfold V H wrap64; omega

/-! ### the first place that does not fit -/
/-- A 0 of the layout takes a digit; any other byte takes itself. -/
def fitB (c l : Int) : Bool := if l = 48 then decide (48 ≤ c ∧ c ≤ 57) else decide (c = l)

structure Mis (s l : ByteArray) (p : Nat) : Prop where
  le : p ≤ s.size
  fits : ∀ i, i < p → fitB (bt s i) (bt l i) = true
  stop : p < s.size → fitB (bt s p) (bt l p) = false

theorem Mis.one {s l : ByteArray} {p q : Nat} (h : Mis s l p) (h' : Mis s l q) : p = q := by
  rcases Nat.lt_trichotomy p q with hlt | e | hlt
  · have h1 := h'.fits p hlt
    have h2 := h.stop (by have := h'.le; omega)
    rw [h1] at h2; cases h2
  · exact e
  · have h1 := h.fits q hlt
    have h2 := h'.stop (by have := h.le; omega)
    rw [h1] at h2; cases h2

/-! ### from the right -/
/-- What the model's third loop knows at place i (the places from i to p are done): of each group the number so far and the power. -/
structure Right (s l : ByteArray) (p i : Nat) (N P : Nat → Int) : Prop where
  ex : ∀ j, ∃ (c : Nat) (R : Int), H s l j p = H s l j i * 10 ^ c + R ∧ N j = wrap64 R ∧ P j = wrap64 (10 ^ c)

theorem Right.start (s l : ByteArray) (p : Nat) : Right s l p p (fun _ => 0) (fun _ => 1) :=
  ⟨fun j => ⟨0, 0, by simp, by unfold wrap64; omega, by rw [show ((10 : Int) ^ 0) = 1 from rfl]; unfold wrap64; omega⟩⟩

theorem Right.sep {s l : ByteArray} {p i : Nat} {N P : Nat → Int} (h : Right s l p (i + 1) N P) (hl : ¬ bt l i = 48) : Right s l p i N P := by
  refine ⟨fun j => ?_⟩
  obtain ⟨c, R, h1, h2, h3⟩ := h.ex j
  rw [H_other (fun hh => hl hh.1)] at h1
  exact ⟨c, R, h1, h2, h3⟩

theorem Right.digit {s l : ByteArray} {p i : Nat} {N P : Nat → Int} (h : Right s l p (i + 1) N P) (hl : bt l i = 48) :
    Right s l p i (fun j => if j = sepN l i then wrap64 (N j + wrap64 ((bt s i - 48) * P j)) else N j) (fun j => if j = sepN l i then wrap64 (P j * 10) else P j) := by
  refine ⟨fun j => ?_⟩
  obtain ⟨c, R, h1, h2, h3⟩ := h.ex j
  by_cases e : j = sepN l i
  · rw [H_digit hl e.symm] at h1
    refine ⟨c + 1, R + (bt s i - 48) * 10 ^ c, ?_, ?_, ?_⟩
    · rw [h1, Int.add_mul, Int.pow_succ, Int.mul_assoc, Int.mul_comm 10]
      omega
    · simp only [e, if_true]
      rw [← e, h2, h3, wrap_mul_right, wrap_add_right, wrap_add_left]
    · simp only [e, if_true]
      rw [← e, h3, wrap_mul_left, Int.pow_succ]
  · rw [H_other (fun hh => e hh.2.symm)] at h1
    refine ⟨c, R, h1, ?_, ?_⟩
    · simp only [e, if_false]; exact h2
    · simp only [e, if_false]; exact h3

theorem Right.done {s l : ByteArray} {p : Nat} {N P : Nat → Int} (h : Right s l p 0 N P) (j : Nat) : N j = V s l p j := by
  obtain ⟨c, R, h1, h2, _⟩ := h.ex j
  unfold V
  rw [h1, h2]
  show _ = wrap64 (0 * 10 ^ c + R)
  simp
end Go.Proofs.Qxb6602266a

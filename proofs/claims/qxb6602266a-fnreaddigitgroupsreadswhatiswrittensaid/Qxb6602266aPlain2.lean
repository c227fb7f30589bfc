import Derived.Test.Qxb6602266aRead
namespace Go.Proofs.Qxb6602266a
open Go.RowKit Go.PlainAid
set_option linter.unusedVariables false

/-- How many 0s of group j stand ahead of place k. -/
def wid (l : ByteArray) (j : Nat) : Nat → Nat
  | 0 => 0
  | k + 1 => wid l j k + if bt l k = 48 ∧ sepN l k = j then 1 else 0

theorem wid_hit {l : ByteArray} {j k : Nat} (h : bt l k = 48) (hj : sepN l k = j) : wid l j (k + 1) = wid l j k + 1 := by
  show wid l j k + (if bt l k = 48 ∧ sepN l k = j then 1 else 0) = _
  rw [if_pos ⟨h, hj⟩]
theorem wid_miss {l : ByteArray} {j k : Nat} (h : ¬ (bt l k = 48 ∧ sepN l k = j)) : wid l j (k + 1) = wid l j k := by
  show wid l j k + (if bt l k = 48 ∧ sepN l k = j then 1 else 0) = _
  rw [if_neg h]; rfl
theorem wid_le (l : ByteArray) (j k : Nat) : wid l j k ≤ k := by
  induction k with
  | zero => exact Nat.le_refl _
  | succ k ih =>
    show wid l j k + (if bt l k = 48 ∧ sepN l k = j then 1 else 0) ≤ k + 1
    split <;> omega
theorem wid_mono (l : ByteArray) (j : Nat) {i k : Nat} (h : i ≤ k) : wid l j i ≤ wid l j k := by
  induction k with
  | zero => have : i = 0 := by omega
            subst this; exact Nat.le_refl _
  | succ k ih =>
    by_cases e : i = k + 1
    · subst e; exact Nat.le_refl _
    · have := ih (by omega)
      show wid l j i ≤ wid l j k + _
      omega

/-- How many 0s of group j stand at place k or behind it. -/
def rem (l : ByteArray) (j k : Nat) : Nat := wid l j l.size - wid l j k

theorem rem_hit {l : ByteArray} {j k : Nat} (hk : k < l.size) (h : bt l k = 48) (hj : sepN l k = j) : rem l j k = rem l j (k + 1) + 1 := by
  unfold rem
  have h1 := wid_hit h hj
  have h2 := wid_mono l j (show k + 1 ≤ l.size by omega)
  omega
theorem rem_miss {l : ByteArray} {j k : Nat} (h : ¬ (bt l k = 48 ∧ sepN l k = j)) : rem l j k = rem l j (k + 1) := by
  unfold rem
  rw [wid_miss h]
theorem rem_end (l : ByteArray) (j : Nat) : rem l j l.size = 0 := by unfold rem; omega
theorem rem_start (l : ByteArray) (j : Nat) : rem l j 0 = wid l j l.size := rfl

/-- The byte that is written at place k. -/
def wr8 (l : ByteArray) (x : Nat → Nat) (k : Nat) : Nat := if bt l k = 48 then 48 + (x (sepN l k) / 10 ^ rem l (sepN l k) (k + 1)) % 10 else (bt l k).toNat

theorem wr8_lt (l : ByteArray) (x : Nat → Nat) (k : Nat) : wr8 l x k < 256 := by
  unfold wr8
  split
  · omega
  · have h1 := bt_le l k
    have h2 := bt_nonneg l k
    omega

/-- What is written. -/
def written (l : ByteArray) (x : Nat → Nat) : List UInt8 := (List.range l.size).map fun k => UInt8.ofNat (wr8 l x k)

theorem written_len (l : ByteArray) (x : Nat → Nat) : (written l x).length = l.size := by simp [written]

theorem written_at (l : ByteArray) (x : Nat → Nat) (k : Nat) (hk : k < l.size) : ((written l x)[k]'(by rw [written_len]; exact hk)).toNat = wr8 l x k := by
  have h := wr8_lt l x k
  simp [written, UInt8.toNat_ofNat']
  omega

theorem bt_written (l : ByteArray) (x : Nat → Nat) (k : Nat) (hk : k < l.size) : bt ⟨(written l x).toArray⟩ k = wr8 l x k := by
  unfold bt
  have hs : k < (⟨(written l x).toArray⟩ : ByteArray).size := by
    show k < (written l x).toArray.size
    simp [written_len, hk]
  rw [dif_pos hs]
  have := written_at l x k hk
  rw [← this]
  rfl

/-- What is written is read. -/
theorem H_written (l : ByteArray) (x : Nat → Nat) (j : Nat) (hx : x j < 10 ^ wid l j l.size) (k : Nat) (hk : k ≤ l.size) : H ⟨(written l x).toArray⟩ l j k = ((x j / 10 ^ rem l j k : Nat) : Int) := by
  induction k with
  | zero =>
    rw [rem_start, Nat.div_eq_of_lt hx]
    rfl
  | succ k ih =>
    have ih := ih (by omega)
    by_cases h : bt l k = 48 ∧ sepN l k = j
    · obtain ⟨h48, hj⟩ := h
      rw [H_digit h48 hj, ih, bt_written l x k (by omega), rem_hit (by omega) h48 hj]
      unfold wr8
      rw [if_pos h48, hj, Nat.pow_succ, ← Nat.div_div_eq_div_mul]
      generalize x j / 10 ^ rem l j (k + 1) = y
      omega
    · rw [H_other h, ih, rem_miss h]

theorem fits_written (l : ByteArray) (x : Nat → Nat) (k : Nat) (hk : k < l.size) : fitB (bt ⟨(written l x).toArray⟩ k) (bt l k) = true := by
  rw [bt_written l x k hk]
  unfold fitB wr8
  by_cases h : bt l k = 48
  · rw [if_pos h, if_pos h]
    simp
    omega
  · rw [if_neg h, if_neg h]
    have := bt_nonneg l k
    simp
    omega

/-- The number of digits. -/
structure IsDc (x c : Nat) : Prop where
  lt : x < 10 ^ c
  least : ∀ k, k < c → 10 ^ k ≤ x

theorem least_of {p : Nat → Prop} (n : Nat) (h : p n) : ∃ m, p m ∧ ∀ k, k < m → ¬ p k := by
  classical
  induction n using Nat.strongRecOn with
  | ind n ih =>
    by_cases hh : ∃ k, k < n ∧ p k
    · obtain ⟨k, hk, hp⟩ := hh
      exact ih k hk hp
    · exact ⟨n, h, fun k hk hp => hh ⟨k, hk, hp⟩⟩

theorem dc_exists (x : Nat) (hx : x ≤ 9223372036854775807) : ∃ c, IsDc x c ∧ c ≤ 19 := by
  obtain ⟨c, h1, h2⟩ := least_of (p := fun c => x < 10 ^ c) 19 (by show x < 10 ^ 19; omega)
  refine ⟨c, ⟨h1, fun k hk => Nat.le_of_not_lt (h2 k hk)⟩, ?_⟩
  rcases Nat.lt_or_ge 19 c with h | h
  · exact absurd (show x < 10 ^ 19 by omega) (h2 19 h)
  · exact h
end Go.Proofs.Qxb6602266a

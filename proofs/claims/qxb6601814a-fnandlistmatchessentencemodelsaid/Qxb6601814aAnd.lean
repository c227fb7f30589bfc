import Derived.Test.Qxb6601814aStrs
import Derived.Test.Qxb6601814aShelf
import Derived.Deep.RegionWith
namespace Go.Proofs.Qxb6601814a
open Go.RowKit
set_option linter.unusedVariables false

def bytesOf (xs : List ByteArray) : List (List UInt8) := xs.map (·.data.toList)

/-- The list in a sentence. -/
def andL (xs : List (List UInt8)) : List UInt8 :=
  if xs.length < 2 then Lib.join xs [] else Lib.join (xs.take (xs.length - 1)) [44, 32] ++ [32, 97, 110, 100, 32] ++ xs.getD (xs.length - 1) []

def AndRet (xs : List ByteArray) (e : Ending) : Prop := ∃ s, e = .returned (.string s) ∧ s.data.toList = andL (bytesOf xs) ∧ s.size ≤ 6000000

theorem lens_total (xs : List ByteArray) : Lib.lens (bytesOf xs) = total xs := by
  unfold Lib.lens total bytesOf
  rw [List.map_map]
  congr 1

theorem join_len (xs : List (List UInt8)) (sep : List UInt8) : (Lib.join xs sep).length ≤ sep.length * xs.length + Lib.lens xs := by
  cases xs with
  | nil => simp [Lib.join_nil]
  | cons x r =>
    rw [Lib.join_cons, List.length_append, Lib.joinTail_length]
    simp only [Lib.lens, List.map_cons, List.sum_cons, List.length_cons, Nat.mul_succ]
    omega

theorem joinN (bk o c n : Nat) (xs : List ByteArray) (sep : ByteArray) (w : World) (hn : n = xs.length) (hs : sep.size ≤ 2) (hl : xs.length + total xs ≤ 1048576) (hc : n ≤ c) (hbk : bk < w.heap.size) (he : StrsAt w bk o xs) :
    Calls Try.prog 18 #[.slice (some ⟨bk, o, none⟩) n c, .string sep] w fun e w' => ∃ s : ByteArray, e = .returned (.string s) ∧ s.data.toList = Lib.join (bytesOf xs) sep.data.toList ∧ s.size ≤ 4000000 ∧ Below w.heap.size w w' := by
  subst hn
  have h1 := join_len (bytesOf xs) sep.data.toList
  rw [lens_total, ← Lib.size_eq] at h1
  have h2 : (bytesOf xs).length = xs.length := by simp [bytesOf]
  have h3 : sep.size * (bytesOf xs).length ≤ 2 * xs.length := by rw [h2]; exact Nat.mul_le_mul_right _ hs
  have h4 : (Lib.join (bytesOf xs) sep.data.toList).length ≤ 4000000 := by omega
  refine (Try.strings_Join bk o c xs sep w he hbk (by omega) hc (by show (Lib.join (bytesOf xs) sep.data.toList).length ≤ _; omega)).mono ?_
  rintro e w' ⟨rfl, hb⟩
  refine ⟨_, rfl, rfl, ?_, hb⟩
  rw [Lib.size_eq]
  exact h4

theorem strsAt_take {w : World} {b off : Nat} {xs : List ByteArray} (h : StrsAt w b off xs) (k : Nat) : StrsAt w b off (xs.take k) := by
  intro j x hj
  rw [List.getElem?_take] at hj
  split at hj
  · exact h j x hj
  · cases hj

theorem total_take (xs : List ByteArray) (k : Nat) : total (xs.take k) ≤ total xs := by
  have := List.take_append_drop k xs
  conv => rhs; rw [← this]
  unfold total
  rw [List.map_append, List.sum_append]
  omega

theorem and_end (xs : List ByteArray) (hk : xs.length - 1 < xs.length) (h2 : ¬ xs.length < 2) (s : ByteArray) (hs : s.data.toList = Lib.join (bytesOf (xs.take (xs.length - 1))) (⟨#[44, 32]⟩ : ByteArray).data.toList) :
    (s ++ (⟨#[32, 97, 110, 100, 32]⟩ : ByteArray) ++ xs[xs.length - 1]'hk).data.toList = andL (bytesOf xs) := by
  have h3 : (bytesOf xs).length = xs.length := by simp [bytesOf]
  unfold andL
  rw [if_neg (by rw [h3]; exact h2), h3, Joins.data_append, Joins.data_append, hs]
  have h4 : (bytesOf xs).take (xs.length - 1) = bytesOf (xs.take (xs.length - 1)) := by simp [bytesOf]
  have h5 : (bytesOf xs).getD (xs.length - 1) [] = (xs[xs.length - 1]'hk).data.toList := by
    simp [bytesOf, List.getD, List.getElem?_eq_getElem hk]
  rw [h4, h5]

set_option maxHeartbeats 1000000 in
theorem andNil (w : World) :
    Calls Try.prog 16 #[.slice none 0 0] w fun e w' => AndRet [] e ∧ w' = w := by
  go_enter Try.func16, Try.ntmps16
  go_wp2_with (go_at_call 18; refine (Try.strings_Join_none none 0 _ _).mono ?_; rintro e w' ⟨rfl, rfl⟩)
  go_ret
  exact ⟨⟨_, rfl, rfl, by show 0 ≤ 6000000; omega⟩, rfl⟩

set_option maxHeartbeats 1000000 in
theorem andSome (b off cap : Nat) (xs : List ByteArray) (w : World) (hl : xs.length + total xs ≤ 1048576) (hcap : xs.length ≤ cap) (hb : b < w.heap.size) (he : StrsAt w b off xs) :
    Calls Try.prog 16 #[.slice (some ⟨b, off, none⟩) xs.length cap] w fun e w' => AndRet xs e ∧ Below w.heap.size w w' := by
  by_cases h2 : xs.length < 2
  · go_enter Try.func16, Try.ntmps16
    go_wp2_with (go_at_call 18; refine (joinN b off cap xs.length xs _ _ rfl (by show 0 ≤ 2; omega) hl hcap hb he).mono ?_; rintro e w' ⟨s, rfl, hs, hss, hbel⟩)
    go_ret
    refine ⟨⟨_, rfl, ?_, by omega⟩, hbel⟩
    have h3 : (bytesOf xs).length < 2 := by simpa [bytesOf] using h2
    unfold andL
    rw [if_pos h3, hs]
  · have hk : xs.length - 1 < xs.length := by omega
    have c0 := he (xs.length - 1) _ (List.getElem?_eq_getElem hk)
    have C0 : Hid (w.cell? ⟨b, off + (xs.length - 1), none⟩ = some (.string (xs[xs.length - 1]'hk))) := c0
    have HL : Hid ((xs.take (xs.length - 1)).length + total (xs.take (xs.length - 1)) ≤ 1048576) := by
      have := total_take xs (xs.length - 1)
      show (xs.take (xs.length - 1)).length + _ ≤ _
      rw [List.length_take]; omega
    go_enter Try.func16, Try.ntmps16
    go_wp2_with fail
    have hsz : (xs[xs.length - 1]'hk).size ≤ 1048576 := by
      have h5 := total_snoc xs (xs.length - 1) hk
      have h6 := total_take xs (xs.length - 1 + 1)
      omega
    have s5 : (⟨#[32, 97, 110, 100, 32]⟩ : ByteArray).size = 5 := rfl
    go_region_with (go_at_call 18; refine (joinN b off cap _ (xs.take (xs.length - 1)) _ _ ?_ ?_ ?_ ?_ ?_ ?_).mono ?_; (rw [List.length_take]; omega); (show 2 ≤ 2; omega); exact HL.out; omega; exact hb; exact strsAt_take he _; rintro e w' ⟨s, rfl, hs, hss, hbel⟩; have c1 := (hbel.cell (p := ⟨b, off + (xs.length - 1), none⟩) (by exact hb)).trans C0.out)
    all_goals
      go_wp2
      go_ret
      exact ⟨⟨_, rfl, and_end xs hk h2 _ hs, by rw [ByteArray.size_append, ByteArray.size_append, s5]; omega⟩, (Below.refl w.heap.size w).drew.trans hbel⟩

set_option maxHeartbeats 1000000 in
theorem zzAndNil (w : World) :
    Calls Try.prog 11 #[.slice none 0 0] w fun e w' => AndRet [] e ∧ w' = w := by
  go_enter Try.func11, Try.ntmps11
  go_wp2_with (go_at_call 16; refine (andNil _).mono ?_; rintro e w' ⟨⟨s, rfl, hs, hss⟩, rfl⟩)
  go_ret
  exact ⟨⟨_, rfl, hs, hss⟩, rfl⟩

set_option maxHeartbeats 1000000 in
theorem zzAnd (b off cap n : Nat) (xs : List ByteArray) (w : World) (hn : n = xs.length) (hl : xs.length + total xs ≤ 1048576) (hcap : xs.length ≤ cap) (hb : b < w.heap.size) (he : StrsAt w b off xs) :
    Calls Try.prog 11 #[.slice (some ⟨b, off, none⟩) n cap] w fun e w' => AndRet xs e ∧ Below w.heap.size w w' := by
  subst hn
  go_enter Try.func11, Try.ntmps11
  go_wp2_with (go_at_call 16; refine (andSome b off cap xs _ hl hcap hb he).mono ?_; rintro e w' ⟨⟨s, rfl, hs, hss⟩, hbel⟩)
  go_ret
  exact ⟨⟨_, rfl, hs, hss⟩, hbel⟩
end Go.Proofs.Qxb6601814a

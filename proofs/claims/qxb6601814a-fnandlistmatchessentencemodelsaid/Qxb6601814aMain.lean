import Derived.Test.Qxb6601814aModel
import Derived.Test.Qxb6601814aAnd
import Derived.Deep.RegionHeld3
namespace Go.Proofs.Qxb6601814a
open Go.RowKit
set_option linter.unusedVariables false

theorem ret_bool {a b : Bool} (h : a = b) : Ending.returned (.bool a) = .returned (.bool b) := by rw [h]

theorem join_snoc (l : List (List UInt8)) (sep : List UInt8) (k : Nat) (hk : 1 ≤ k) (h : k < l.length) : Lib.join (l.take (k + 1)) sep = Lib.join (l.take k) sep ++ sep ++ l[k] := by
  match l, k, hk, h with
  | x :: r, k + 1, _, h =>
    have h' : k < r.length := by simpa using h
    rw [List.take_succ_cons, List.take_succ_cons, Lib.join_cons, Lib.join_cons, Lib.joinTail_take_succ sep r k r[k] (List.getElem?_eq_getElem h')]
    simp [List.append_assoc]

theorem smTo_join (xs : List ByteArray) (k : Nat) (hk : 1 ≤ k) (h : k + 1 ≤ xs.length) : smTo xs k = Lib.join ((bytesOf xs).take k) [44, 32] := by
  induction k with
  | zero => omega
  | succ k ih =>
    have hlt : k < xs.length := by omega
    have hx : (xs.getD k ⟨#[]⟩).data.toList = (bytesOf xs)[k]'(by simp [bytesOf]; omega) := by
      simp [bytesOf, List.getD, List.getElem?_eq_getElem hlt]
    show smTo xs k ++ sepL xs.length k ++ _ = _
    rw [hx]
    by_cases h0 : k = 0
    · subst h0
      match xs, h with
      | x :: r, _ => simp [smTo, sepL, bytesOf, Lib.join_one]
    · rw [ih (by omega) (by omega), join_snoc _ _ k (by omega) (by simp [bytesOf]; omega)]
      have hs : sepL xs.length k = [44, 32] := by unfold sepL; rw [if_neg h0, if_neg (by omega)]
      rw [hs]

/-- The model's sentence is the list in a sentence. -/
theorem smTo_and (xs : List ByteArray) : smTo xs xs.length = andL (bytesOf xs) := by
  have hl : (bytesOf xs).length = xs.length := by simp [bytesOf]
  unfold andL
  by_cases h2 : xs.length < 2
  · rw [if_pos (by omega)]
    match xs, h2 with
    | [], _ => rfl
    | [x], _ => simp [smTo, sepL, bytesOf, Lib.join_one]
  · rw [if_neg (by omega), hl]
    obtain ⟨n, hn⟩ : ∃ n, xs.length = n + 1 := ⟨xs.length - 1, by omega⟩
    rw [hn]
    show smTo xs n ++ sepL xs.length n ++ (xs.getD n ⟨#[]⟩).data.toList = _
    rw [smTo_join xs n (by omega) (by omega)]
    have hs : sepL xs.length n = [32, 97, 110, 100, 32] := by unfold sepL; rw [if_neg (by omega), if_pos (by omega)]
    rw [hs]
    have hx : (xs.getD n ⟨#[]⟩).data.toList = (bytesOf xs).getD n [] := by
      simp [bytesOf, List.getD, List.getElem?_eq_getElem (show n < xs.length by omega)]
    rw [hx]
    rfl

/-- For three phrases or more: the first, a comma, the sentence of the rest. -/
theorem and_peel (x : List UInt8) (r : List (List UInt8)) (h : 2 ≤ r.length) : andL (x :: r) = x ++ [44, 32] ++ andL r := by
  unfold andL
  rw [if_neg (by simp; omega), if_neg (by omega)]
  match r, h with
  | y :: t, h =>
    obtain ⟨n, hn⟩ : ∃ n, t.length = n + 1 := ⟨t.length - 1, by simp at h; omega⟩
    simp only [List.length_cons, hn, Nat.add_sub_cancel, List.take_succ_cons, List.getD_cons_succ]
    rw [Lib.join_cons, Lib.join_cons]
    simp [Lib.joinTail, List.append_assoc]

theorem peel_end (xs : List ByteArray) (hx0 : 0 < xs.length) (h3 : ¬ xs.length < 3) {sA sB : ByteArray} (hA : sA.data.toList = andL (bytesOf xs)) (hB : sB.data.toList = andL (bytesOf xs.tail)) :
    (sA.toList == (xs[0]'hx0 ++ (⟨#[44, 32]⟩ : ByteArray) ++ sB).toList) = true := by
  rw [Lib.toList_data, Lib.toList_data, Joins.data_append, Joins.data_append, hA, hB]
  match xs, hx0, h3 with
  | x :: r, _, h3 =>
    have h : 2 ≤ (bytesOf r).length := by simp [bytesOf] at h3 ⊢; omega
    have e := and_peel x.data.toList (bytesOf r) h
    show (andL (x.data.toList :: bytesOf r) == _) = true
    rw [e]
    simp

set_option maxHeartbeats 1000000 in
theorem mainNil3 (w : World) :
    Calls Try.prog 3 #[.slice none 0 0] w fun e w' => e = .returned (.bool true) ∧ Below w.heap.size w w' := by
  have he : StrsOf w none [] := .inl rfl
  go_enter Try.func3, Try.ntmps3
  go_wp2_with fail
  refine (zzb8 none 0 [] _ (by simp) he).mono ?_
  rintro e w0 ⟨⟨x, rfl, _⟩, rfl⟩
  cases x with
  | false =>
    go_wp2_with fail
    go_ret
    exact ⟨rfl, Below.refl _ _⟩
  | true =>
    go_wp2_with fail
    refine (phraseB none 0 [] _ (by simp) he).mono ?_
    rintro e w1 ⟨⟨x, rfl⟩, rfl⟩
    go_wp2_with fail
    · go_ret
      exact ⟨rfl, Below.refl _ _⟩
    refine (cloneNil _).mono ?_
    rintro e w2 ⟨rfl, rfl⟩
    go_wp2_with fail
    refine (zzAndNil _).mono ?_
    rintro e w2 ⟨⟨s, rfl, hs, hss⟩, rfl⟩
    go_wp2_with fail
    refine (modelNil _).mono ?_
    rintro e w3 ⟨rfl, rfl⟩
    go_wp2
    go_ret
    exact ⟨ret_bool (by rw [Lib.toList_data, hs]; rfl), Below.refl _ _⟩

set_option maxHeartbeats 1000000 in
theorem mainSome3 (a : Addr) (cap : Nat) (xs : List ByteArray) (w : World) (hl : xs.length ≤ 9223372036854775807) (he : StrsOf w (some a) xs) :
    Calls Try.prog 3 #[.slice (some a) xs.length cap] w fun e w' => e = .returned (.bool true) ∧ Below w.heap.size w w' := by
  go_enter Try.func3, Try.ntmps3
  go_wp2_with fail
  refine (zzb8 (some a) cap xs _ hl he).mono ?_
  rintro e w0 ⟨⟨x, rfl, hx⟩, rfl⟩
  cases x with
  | false =>
    go_wp2_with fail
    go_ret
    exact ⟨rfl, Below.refl _ _⟩
  | true =>
    have htot := hx rfl
    clear hx
    by_cases h0 : 65536 < xs.length
    · go_wp2_with fail
      go_ret
      exact ⟨rfl, Below.refl _ _⟩
    go_wp2_with fail
    refine (phraseB (some a) cap xs _ (by omega) he).mono ?_
    rintro e w1 ⟨⟨x, rfl⟩, rfl⟩
    go_wp2_with fail
    · go_ret
      exact ⟨rfl, Below.refl _ _⟩
    refine (cloneSome a cap xs _ (by omega) he).mono ?_
    rintro e w2 ⟨rfl, he2, hlt2, hb2⟩
    go_wp2_with fail
    refine (zzAnd w1.heap.size 0 xs.length xs.length xs _ rfl htot (Nat.le_refl _) hlt2 he2).mono ?_
    rintro e w3 ⟨⟨s, rfl, hs, hss⟩, hb3⟩
    have he3 : StrsAt w3 w1.heap.size 0 xs := fun j x hj => (hb3.cell (p := ⟨w1.heap.size, 0 + j, none⟩) hlt2).trans (he2 j x hj)
    go_wp2_with fail
    refine (model w1.heap.size 0 xs.length xs _ htot he3).mono ?_
    rintro e w4 ⟨rfl, hb4⟩
    go_wp2
    go_ret
    exact ⟨ret_bool (by rw [Lib.toList_data, hs, smTo_and]; simp), (hb2.trans (hb3.mono hb2.size)).trans (hb4.mono (Nat.le_trans hb2.size hb3.size))⟩

set_option maxHeartbeats 1000000 in
theorem mainNil4 (w : World) :
    Calls Try.prog 4 #[.slice none 0 0] w fun e w' => e = .returned (.bool true) ∧ Below w.heap.size w w' := by
  have he : StrsOf w none [] := .inl rfl
  go_enter Try.func4, Try.ntmps4
  go_wp2_with fail
  refine (zzb13 none 0 [] _ (by simp) he).mono ?_
  rintro e w0 ⟨⟨x, rfl, _⟩, rfl⟩
  cases x with
  | false =>
    go_wp2_with fail
    go_ret
    exact ⟨rfl, Below.refl _ _⟩
  | true =>
    go_wp2_with fail
    refine (phraseB none 0 [] _ (by simp) he).mono ?_
    rintro e w1 ⟨⟨x, rfl⟩, rfl⟩
    go_wp2_with fail
    all_goals
      go_ret
      exact ⟨rfl, Below.refl _ _⟩

set_option maxHeartbeats 1000000 in
theorem mainSome4 (a : Addr) (cap : Nat) (xs : List ByteArray) (w : World) (hl : xs.length ≤ 9223372036854775807) (he : StrsOf w (some a) xs) :
    Calls Try.prog 4 #[.slice (some a) xs.length cap] w fun e w' => e = .returned (.bool true) ∧ Below w.heap.size w w' := by
  go_enter Try.func4, Try.ntmps4
  go_wp2_with fail
  refine (zzb13 (some a) cap xs _ hl he).mono ?_
  rintro e w0 ⟨⟨x, rfl, hx⟩, rfl⟩
  cases x with
  | false =>
    go_wp2_with fail
    go_ret
    exact ⟨rfl, Below.refl _ _⟩
  | true =>
    have htot := hx rfl
    clear hx
    by_cases h0 : 65536 < xs.length
    · go_wp2_with fail
      go_ret
      exact ⟨rfl, Below.refl _ _⟩
    go_wp2_with fail
    refine (phraseB (some a) cap xs _ (by omega) he).mono ?_
    rintro e w1 ⟨⟨x, rfl⟩, rfl⟩
    by_cases h3 : xs.length < 3
    · go_wp2_with fail
      all_goals
        go_ret
        exact ⟨rfl, Below.refl _ _⟩
    go_wp2_with fail
    · go_ret
      exact ⟨rfl, Below.refl _ _⟩
    refine (cloneSome a cap xs _ (by omega) he).mono ?_
    rintro e w2 ⟨rfl, he2, hlt2, hb2⟩
    go_wp2_with fail
    have hx0 : 0 < xs.length := by omega
    have HE : Hid (∀ W, Below w2.heap.size w2 W → StrsAt W w1.heap.size 0 xs ∧ StrsAt W w1.heap.size 1 xs.tail ∧ w1.heap.size < W.heap.size ∧ W.cell? ⟨w1.heap.size, 0, none⟩ = some (.string (xs[0]'hx0))) := by
      intro W hW
      have h1 : StrsAt W w1.heap.size 0 xs := fun j x hj => (hW.cell (p := ⟨w1.heap.size, 0 + j, none⟩) hlt2).trans (he2 j x hj)
      refine ⟨h1, fun j x hj => ?_, Nat.lt_of_lt_of_le hlt2 hW.size, h1 0 _ (List.getElem?_eq_getElem hx0)⟩
      rw [List.getElem?_tail] at hj
      have := h1 (j + 1) x hj
      rwa [show 0 + (j + 1) = 1 + j from by omega] at this
    have HT : Hid (xs.tail.length + total xs.tail ≤ 1048576) := by
      show xs.tail.length + total xs.tail ≤ 1048576
      have h5 : total xs.tail ≤ total xs := by
        cases xs with
        | nil => simp
        | cons x r => simp [total]
      rw [List.length_tail]
      omega
    have hsz0 : (xs[0]'hx0).size ≤ 1048576 := by
      have h5 := total_snoc xs 0 hx0
      have h6 := total_take xs 1
      simp at h5
      omega
    have s2 : (⟨#[44, 32]⟩ : ByteArray).size = 2 := rfl
    have ha1 : ∀ W : World, (Op.stringOp .add (xs[0]'hx0) ⟨#[44, 32]⟩).run Try.prog W = .ok (.string (xs[0]'hx0 ++ ⟨#[44, 32]⟩)) W := fun W => run_string_add_sum W _ _ (by rw [s2]; omega)
    have HA : Hid (∀ s : ByteArray, s.size ≤ 6000000 → ∀ W : World, (Op.stringOp .add (xs[0]'hx0 ++ ⟨#[44, 32]⟩) s).run Try.prog W = .ok (.string (xs[0]'hx0 ++ ⟨#[44, 32]⟩ ++ s)) W) := fun s h W => run_string_add_sum W _ _ (by rw [ByteArray.size_append, s2]; omega)
    have b1 : (0 : Int) < (xs.length : Int) := by omega
    have b2 : (1 : Int) ≤ (xs.length : Int) := by omega
    have cW := (HE.out w2 (Below.refl _ _)).2.2.2
    have HB : Hid (Below w1.heap.size w1 w2) := hb2
    clear he2 hb2 he
    go_region_held3 (fun w' => w'.cell? ⟨w1.heap.size, 0, none⟩ = some (.string (xs[0]'hx0))) (first | exact cA | exact cB | go_keep) (first | (go_at_call 11; refine (zzAnd w1.heap.size 0 xs.length xs.length xs _ rfl htot (Nat.le_refl _) ?_ ?_).mono ?_; (first | exact (HE.out _ hbB).2.2.1 | exact (HE.out _ (Below.refl _ _).drew).2.2.1); (first | exact (HE.out _ hbB).1 | exact (HE.out _ (Below.refl _ _).drew).1); rintro e wA ⟨⟨sA, rfl, hsA, hssA⟩, hbA0⟩; (first | (have hbA : Below w2.heap.size w2 wA := hbB.trans (hbA0.mono hbB.size)) | (have hbA : Below w2.heap.size w2 wA := (Below.refl w2.heap.size w2).drew.trans hbA0)); have cA := (HE.out wA hbA).2.2.2) | (go_at_call 11; refine (zzAnd w1.heap.size 1 (xs.length - 1) (xs.length - 1) xs.tail _ ?_ HT.out ?_ ?_ ?_).mono ?_; (rw [List.length_tail]); (rw [List.length_tail]; exact Nat.le_refl _); (first | exact (HE.out _ hbA).2.2.1 | exact (HE.out _ (Below.refl _ _).drew).2.2.1); (first | exact (HE.out _ hbA).2.1 | exact (HE.out _ (Below.refl _ _).drew).2.1); rintro e wB ⟨⟨sB, rfl, hsB, hssB⟩, hbB0⟩; (first | (have hbB : Below w2.heap.size w2 wB := hbA.trans (hbB0.mono hbA.size)) | (have hbB : Below w2.heap.size w2 wB := (Below.refl w2.heap.size w2).drew.trans hbB0)); have cB := (HE.out wB hbB).2.2.2; have ha2 := HA.out sB hssB))
    go_wp2
    go_ret
    refine ⟨ret_bool ?_, HB.out.trans (hbB.mono HB.out.size)⟩
    exact peel_end xs hx0 h3 hsA hsB
end Go.Proofs.Qxb6601814a

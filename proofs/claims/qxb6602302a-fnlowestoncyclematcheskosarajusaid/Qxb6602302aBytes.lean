/-
  The bound on the lengths.
-/
import Derived.Test.Qxb6602302aLeaf
namespace Go.Proofs.Qxb6602302a
open Go.RowKit
set_option linter.unusedVariables false
set_option linter.unusedSimpArgs false

def total (xs : List ByteArray) : Nat := (xs.map (·.size)).sum
theorem total_snoc {xs : List ByteArray} {k : Nat} {x : ByteArray} (h : xs[k]? = some x) : total (xs.take (k + 1)) = total (xs.take k) + x.size := by
  unfold total
  rw [List.take_add_one, h]
  simp
def rtot (rows : List (List Int)) : Nat := (rows.map (·.length)).sum
theorem rtot_snoc {rows : List (List Int)} {k : Nat} {r : List Int} (h : rows[k]? = some r) : rtot (rows.take (k + 1)) = rtot (rows.take k) + r.length := by
  unfold rtot
  rw [List.take_add_one, h]
  simp
theorem rtot_mem {rows : List (List Int)} {r : List Int} (h : r ∈ rows) : r.length ≤ rtot rows := by
  unfold rtot
  induction rows with
  | nil => simp at h
  | cons a rows ih =>
    rcases List.mem_cons.1 h with rfl | h
    · simp
    · have := ih h
      simp
      omega

def ShortRet (xs : List ByteArray) (rows : List (List Int)) (e : Ending) : Prop := ∃ x, e = .returned (.bool x) ∧ (x = true → total xs ≤ 1048576 ∧ rtot rows ≤ 1048576)

set_option maxHeartbeats 1000000 in
theorem zzb7 (ta sa : Option Addr) (tc sc : Nat) (xs : List ByteArray) (rows : List (List Int)) (w : World) (hx : xs.length ≤ 9223372036854775807) (hr : rows.length ≤ 9223372036854775807) (hrl : ∀ r, r ∈ rows → r.length ≤ 9223372036854775807) (ht : StrsOf w ta xs) (hs : RowsOf w sa rows) :
    Calls Try.prog 7 #[.slice ta xs.length tc, .slice sa rows.length sc] w fun e w' => ShortRet xs rows e ∧ w' = w := by
  have hf : ShortRet xs rows (.returned (.bool false)) := ⟨false, rfl, fun h => by cases h⟩
  have HF : Hid (ShortRet xs rows (.returned (.bool false))) := hf
  clear hf
  go_enter Try.func7, Try.ntmps7
  go_wp2
  · go_ret
    exact ⟨HF.out, rfl⟩
  rename_i hx1
  go_loopg [5, 6] xs.length (fun gk s5 s6 wr => wr = w ∧ ∃ k : Nat, k ≤ xs.length ∧ gk = xs.length - k ∧ s6 = .int .i64 (k : Int) ∧ s5 = .int .i64 ((xs.length : Int) + (total (xs.take k) : Int)) ∧ xs.length + total (xs.take k) ≤ 1048576)
  case atStart => exact ⟨rfl, 0, Nat.zero_le _, by omega, rfl, by simp [total], by simp [total]; omega⟩
  case round =>
    obtain ⟨rfl, k, hk, hgk, rfl, rfl, hle⟩ := hrel
    by_cases hlt : k < xs.length
    · rcases ht with rfl | ⟨b, off, rfl, ht⟩
      · simp at hlt
      obtain ⟨x, hxk⟩ : ∃ x, xs[k]? = some x := ⟨_, List.getElem?_eq_getElem hlt⟩
      have c0 := ht k x hxk
      have HT : Hid (total (xs.take (k + 1)) = total (xs.take k) + x.size) := total_snoc hxk
      clear hxk ht
      generalize total (xs.take k) = tk at *
      by_cases h1 : 1048576 < x.size
      · go_wp2
        go_ret
        exact ⟨HF.out, rfl⟩
      by_cases h2 : 1048576 < xs.length + tk + x.size
      · go_wp2
        go_ret
        exact ⟨HF.out, rfl⟩
      go_wp2
      go_roundg (xs.length - (k + 1))
      case measure => omega
      case rel => exact ⟨rfl, k + 1, by omega, rfl, by go_num, by rw [HT.out]; congr 1; omega, by rw [HT.out]; omega⟩
    · obtain rfl : k = xs.length := by omega
      rw [List.take_length] at *
      have hTx : total xs ≤ 1048576 := by omega
      have HOK : Hid (rtot rows ≤ 1048576 → ShortRet xs rows (.returned (.bool true))) := fun h => ⟨true, rfl, fun _ => ⟨hTx, h⟩⟩
      clear hTx
      generalize total xs = tx at *
      by_cases h3 : 1048576 < rows.length
      · go_wp2
        go_ret
        exact ⟨HF.out, rfl⟩
      by_cases h4 : 1048576 < xs.length + tx + rows.length
      · go_wp2
        go_ret
        exact ⟨HF.out, rfl⟩
      go_wp2
      go_loopg [5, 7] rows.length (fun gk s5 s7 wr' => wr' = wr ∧ ∃ k : Nat, k ≤ rows.length ∧ gk = rows.length - k ∧ s7 = .int .i64 (k : Int) ∧ s5 = .int .i64 ((xs.length : Int) + (tx : Int) + (rows.length : Int) + (rtot (rows.take k) : Int)) ∧ xs.length + tx + rows.length + rtot (rows.take k) ≤ 1048576)
      case atStart => exact ⟨rfl, 0, Nat.zero_le _, by omega, rfl, by simp [rtot], by simp [rtot]; omega⟩
      case round =>
        obtain ⟨rfl, k, hk2, hgk2, rfl, rfl, hle2⟩ := hrel
        by_cases hlt : k < rows.length
        · rcases hs with rfl | ⟨b, off, rfl, hs⟩
          · simp at hlt
          obtain ⟨r, hrk⟩ : ∃ r, rows[k]? = some r := ⟨_, List.getElem?_eq_getElem hlt⟩
          obtain ⟨ra, rc, c0, _⟩ := hs k r hrk
          have hr9 := hrl r (List.mem_iff_getElem?.2 ⟨k, hrk⟩)
          have HT : Hid (rtot (rows.take (k + 1)) = rtot (rows.take k) + r.length) := rtot_snoc hrk
          clear hrk hs
          generalize rtot (rows.take k) = tk at *
          by_cases h1 : 1048576 < r.length
          · go_wp2
            go_ret
            exact ⟨HF.out, rfl⟩
          by_cases h2 : 1048576 < xs.length + tx + rows.length + tk + r.length
          · go_wp2
            go_ret
            exact ⟨HF.out, rfl⟩
          go_wp2
          go_roundg (rows.length - (k + 1))
          case measure => omega
          case rel => exact ⟨rfl, k + 1, by omega, rfl, by go_num, by rw [HT.out]; congr 1; omega, by rw [HT.out]; omega⟩
        · obtain rfl : k = rows.length := by omega
          rw [List.take_length] at hle2
          go_wp2
          go_ret
          exact ⟨HOK.out (by omega), rfl⟩
end Go.Proofs.Qxb6602302a

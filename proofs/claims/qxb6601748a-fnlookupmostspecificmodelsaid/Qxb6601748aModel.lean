import Derived.Test.Qxb6601748aPlain
import Derived.Deep.QuietTactic
import Derived.BigQuiet
namespace Go.Proofs.Qxb6601748a
open Go.RowKit
set_option linter.unusedVariables false

def ModelRet (n : Nat) (K U Q : Nat → ByteArray) (l : List UInt8) (e : Ending) : Prop := ∃ u p ok, e = .returned (.tuple #[.string u, .string p, .bool ok]) ∧ Best n K U Q l u p ok

/-- The state of the model's loop after k entries. -/
structure Upto (k : Nat) (K : Nat → ByteArray) (full : List UInt8) (best : Int) : Prop where
  lo : -1 ≤ best
  hi : best < k
  no : best < 0 → ∀ i, i < k → slashB (K i).data.toList full = false
  yes : 0 ≤ best → slashB (K best.toNat).data.toList full = true ∧ ∀ j, j < k → slashB (K j).data.toList full = true → (K j).data.toList.length ≤ (K best.toNat).data.toList.length ∧ ((K j).data.toList.length = (K best.toNat).data.toList.length → j ≤ best.toNat)

theorem Upto.start (K : Nat → ByteArray) (full : List UInt8) : Upto 0 K full (-1) :=
  ⟨by omega, by omega, fun _ i h => absurd h (by omega), fun h => absurd h (by omega)⟩

theorem Upto.skip {k : Nat} {K : Nat → ByteArray} {full : List UInt8} {best : Int} (h : Upto k K full best) (hs : slashB (K k).data.toList full = false) : Upto (k + 1) K full best := by
  refine ⟨h.lo, by have := h.hi; omega, fun h0 i hi => ?_, fun h0 => ⟨(h.yes h0).1, fun j hj hsj => ?_⟩⟩
  · by_cases e : i = k
    · subst e; exact hs
    · exact h.no h0 i (by omega)
  · by_cases e : j = k
    · subst e; rw [hs] at hsj; cases hsj
    · exact (h.yes h0).2 j (by omega) hsj

theorem Upto.stay {k : Nat} {K : Nat → ByteArray} {full : List UInt8} {best : Int} (h : Upto k K full best) (h0 : 0 ≤ best) (hl : (K k).size < (K best.toNat).size) : Upto (k + 1) K full best := by
  rw [Lib.size_eq, Lib.size_eq] at hl
  refine ⟨h.lo, by have := h.hi; omega, fun h1 => absurd h1 (by omega), fun _ => ⟨(h.yes h0).1, fun j hj hsj => ?_⟩⟩
  by_cases e : j = k
  · subst e; exact ⟨by omega, fun e => by omega⟩
  · exact (h.yes h0).2 j (by omega) hsj

theorem Upto.take {k : Nat} {K : Nat → ByteArray} {full : List UInt8} {best : Int} (h : Upto k K full best) (hs : slashB (K k).data.toList full = true) (hl : best < 0 ∨ (K best.toNat).size ≤ (K k).size) : Upto (k + 1) K full (k : Int) := by
  refine ⟨by omega, by omega, fun h1 => absurd h1 (by omega), fun _ => ⟨by simpa using hs, fun j hj hsj => ?_⟩⟩
  rw [Int.toNat_natCast]
  by_cases e : j = k
  · subst e; exact ⟨Nat.le_refl _, fun _ => Nat.le_refl _⟩
  · refine ⟨?_, fun _ => by omega⟩
    by_cases h0 : best < 0
    · rw [h.no h0 j (by omega)] at hsj; cases hsj
    · have hl' : (K best.toNat).size ≤ (K k).size := by
        rcases hl with hl | hl
        · exact absurd hl h0
        · exact hl
      rw [Lib.size_eq, Lib.size_eq] at hl'
      exact Nat.le_trans ((h.yes (by omega)).2 j (by omega) hsj).1 hl'

theorem Upto.best_no {k : Nat} {K U Q : Nat → ByteArray} {full : List UInt8} {best : Int} (h : Upto k K full best) (h0 : best < 0) : Best k K U Q full ⟨#[]⟩ ⟨#[]⟩ false :=
  ⟨fun _ => ⟨rfl, rfl, h.no h0⟩, fun e => by cases e⟩

theorem Upto.best_yes {k : Nat} {K U Q : Nat → ByteArray} {full : List UInt8} {best : Int} (h : Upto k K full best) (h0 : 0 ≤ best) : Best k K U Q full (U best.toNat) (Q best.toNat) true :=
  ⟨fun e => (by cases e), fun _ => ⟨best.toNat, by have := h.hi; omega, (h.yes h0).1, rfl, rfl, (h.yes h0).2⟩⟩

set_option maxHeartbeats 1000000 in
theorem modelNil (s : ByteArray) (w : World) (K U Q : Nat → ByteArray) :
    Calls Try.prog 12 #[.slice none 0 0, .string s] w fun e w' => ModelRet 0 K U Q s.data.toList e ∧ Below w.heap.size w w' := by
  go_enter Try.func12, Try.ntmps12
  go_wp2
  refine wp_loop_rounds 1 ?_
  rw [rounds_succ]
  go_wp2
  go_ret3
  exact ⟨⟨_, _, _, rfl, (Upto.start K s.data.toList).best_no (by omega)⟩, Below.refl _ _⟩

set_option maxHeartbeats 1000000 in
theorem modelSome (g len : Nat) (K U Q : Nat → ByteArray) (s : ByteArray) (w : World) (hl : len ≤ 65536) (he : EntsAt w g 0 len K U Q) (hK : ∀ i, (K i).size ≤ maxLen) (hs : s.size ≤ maxLen) :
    Calls Try.prog 12 #[.slice (some ⟨g, 0, none⟩) len len, .string s] w fun e w' => ModelRet len K U Q s.data.toList e ∧ Below w.heap.size w w' := by
  go_enter Try.func12, Try.ntmps12
  go_wp2
  go_loopw [7, 8] (fun b i wr => ∃ k : Nat, ∃ best : Int, k ≤ len ∧ b = .int .i64 best ∧ i = .int .i64 k ∧ Upto k K s.data.toList best ∧ Below w.heap.size w wr) (fun _ i _ => len - (intOf i).toNat)
  case atStart => exact ⟨0, -1, Nat.zero_le _, rfl, rfl, Upto.start _ _, Below.refl _ _⟩
  case round =>
    obtain ⟨k, best, hk, rfl, rfl, hup, hbel⟩ := hrel
    have hlo := hup.lo
    have hhi := hup.hi
    by_cases hlt : k < len
    · obtain ⟨d0, d1, d2⟩ := he k hlt
      have hg : g < w.heap.size := lt_of_cell d0
      have c0 := (hbel.cell (p := ⟨g, 0 + k * 3, none⟩) hg).trans d0
      rw [Nat.zero_add] at c0
      clear d0 d1 d2
      cases hsb : slashB (K k).data.toList s.data.toList with
      | false =>
        have HS : Hid (slashB (K k).data.toList s.data.toList = false) := hsb
        go_wp2_with (go_at_call 24; refine (slashPre (K k) s _ (hK k) hs).mono ?_; rintro e w' ⟨rfl, rfl⟩; rw [hsb])
        go_roundw
        case rel => exact ⟨k + 1, best, by omega, rfl, by go_num, hup.skip HS.out, hbel⟩
        case measure => simp [intOf]; omega
      | true =>
        have HS : Hid (slashB (K k).data.toList s.data.toList = true) := hsb
        by_cases h0 : best < 0
        · have hd : decide (best < 0) = true := by simpa using h0
          go_wp2_with (go_at_call 24; refine (slashPre (K k) s _ (hK k) hs).mono ?_; rintro e w' ⟨rfl, rfl⟩; rw [hsb])
          go_quiet (fail)
          go_wp2
          go_roundw
          case rel => exact ⟨k + 1, k, by omega, rfl, by go_num, hup.take HS.out (.inl h0), below_drewN hbel _⟩
          case measure => simp [intOf]; omega
        · have hd : decide (best < 0) = false := by simpa using h0
          have hb0 : 0 ≤ best := by omega
          obtain ⟨d0, _, _⟩ := he best.toNat (by omega)
          have c1 := (hbel.cell (p := ⟨g, 0 + best.toNat * 3, none⟩) hg).trans d0
          rw [Nat.zero_add] at c1
          clear d0
          by_cases hsz : (K best.toNat).size ≤ (K k).size
          · have hz : decide (((K best.toNat).size : Int) ≤ ((K k).size : Int)) = true := by simpa using hsz
            go_wp2_with (go_at_call 24; refine (slashPre (K k) s _ (hK k) hs).mono ?_; rintro e w' ⟨rfl, rfl⟩; rw [hsb])
            go_quiet (fail)
            go_wp2
            go_roundw
            case rel => exact ⟨k + 1, k, by omega, rfl, by go_num, hup.take HS.out (.inr hsz), below_drewN hbel _⟩
            case measure => simp [intOf]; omega
          · have hz : decide (((K best.toNat).size : Int) ≤ ((K k).size : Int)) = false := by simpa using hsz
            go_wp2_with (go_at_call 24; refine (slashPre (K k) s _ (hK k) hs).mono ?_; rintro e w' ⟨rfl, rfl⟩; rw [hsb])
            go_quiet (fail)
            go_wp2
            go_roundw
            case rel => exact ⟨k + 1, best, by omega, rfl, by go_num, hup.stay hb0 (by omega), below_drewN hbel _⟩
            case measure => simp [intOf]; omega
    · obtain rfl : k = len := by omega
      by_cases h0 : best < 0
      · have hd : decide (best < 0) = true := by simpa using h0
        go_wp2
        go_ret3
        exact ⟨⟨_, _, _, rfl, hup.best_no h0⟩, hbel⟩
      · have hb0 : 0 ≤ best := by omega
        obtain ⟨_, d1, d2⟩ := he best.toNat (by omega)
        have hg : g < w.heap.size := lt_of_cell d1
        have c1 := (hbel.cell (p := ⟨g, 0 + best.toNat * 3 + 1, none⟩) hg).trans d1
        have c2 := (hbel.cell (p := ⟨g, 0 + best.toNat * 3 + 2, none⟩) hg).trans d2
        rw [Nat.zero_add] at c1 c2
        clear d1 d2
        go_wp2
        go_quiet (fail)
        go_wp2
        go_ret3
        exact ⟨⟨_, _, _, rfl, hup.best_yes hb0⟩, below_drewN hbel _⟩
end Go.Proofs.Qxb6601748a

import Derived.Test.Qxb6601748aProg
import Derived.WalkKit
import Derived.WalkSpells
import Derived.WalkLawsBesides
import Derived.Lib.Strings
import Derived.Lib.SmallJoins
namespace Go.Proofs.Qxb6601748a
open Go.RowKit
set_option linter.unusedVariables false

/-- The place of the last byte c of s, below n: -1 where there is none. -/
structure LastAt (l : List UInt8) (c : UInt8) (r : Int) : Prop where
  none : r < 0 → r = -1 ∧ ∀ j (h : j < l.length), l[j] ≠ c
  some : 0 ≤ r → ∃ h : r.toNat < l.length, l[r.toNat] = c ∧ ∀ j (h : j < l.length), r.toNat < j → l[j] ≠ c

set_option maxHeartbeats 400000 in
theorem lastIdxStr (s : ByteArray) (c : UInt8) (w : World) (hs : s.size ≤ maxLen) :
    Calls Try.prog 32 #[.string s, .int .u8 c.toNat] w fun e w' => (∃ r : Int, e = .returned (.int .i64 r) ∧ LastAt s.data.toList c r) ∧ w' = w := by
  unfold maxLen at hs
  go_enter Try.func32, Try.ntmps32
  go_wp2
  go_loop [5] (fun i => ∃ k : Int, -1 ≤ k ∧ k < s.size ∧ i = .int .i64 k ∧ ∀ j (h : j < s.data.toList.length), k < j → s.data.toList[j] ≠ c) (fun i => (intOf i + 1).toNat)
  case atStart => exact ⟨_, by omega, by omega, rfl, fun j h hj => by simp at h; omega⟩
  case round =>
    obtain ⟨k, hk1, hk2, rfl, hno⟩ := hrel
    by_cases h0 : 0 ≤ k
    · have hkl : k.toNat < s.data.toList.length := by simp; omega
      by_cases hc : s.data.toList[k.toNat] = c
      · have hb : ((s[k.toNat]'(by simpa using hkl)).toNat == c.toNat) = true := by rw [beq_iff_eq]; exact congrArg UInt8.toNat hc
        have HH : Hid (s.data.toList[k.toNat] = c) := hc
        clear hc
        go_wp2
        go_ret
        exact ⟨⟨_, rfl, ⟨fun h => absurd h (by omega), fun _ => ⟨hkl, HH.out, fun j h hj => hno j h (by omega)⟩⟩⟩, rfl⟩
      · have hb : ((s[k.toNat]'(by simpa using hkl)).toNat == c.toNat) = false := by rw [beq_eq_false_iff_ne]; exact fun h => hc (UInt8.toNat_inj.1 h)
        go_wp2
        go_round
        case rel => exact ⟨k - 1, by omega, by omega, rfl, fun j h hj => by
            by_cases e : j = k.toNat
            · subst e; exact hc
            · exact hno j h (by omega)⟩
        case measure => simp [intOf]; omega
    · go_wp2
      go_ret
      exact ⟨⟨_, rfl, ⟨fun _ => ⟨rfl, fun j h => hno j h (by omega)⟩, fun h => absurd h (by omega)⟩⟩, rfl⟩

set_option maxHeartbeats 400000 in
theorem lastIdx (s : ByteArray) (c : UInt8) (w : World) (hs : s.size ≤ maxLen) :
    Calls Try.prog 27 #[.string s, .int .u8 c.toNat] w fun e w' => (∃ r : Int, e = .returned (.int .i64 r) ∧ LastAt s.data.toList c r) ∧ w' = w := by
  go_enter Try.func27, Try.ntmps27
  go_wp2_with (go_at_call 32; refine (lastIdxStr s c _ hs).mono ?_; rintro e w' ⟨⟨r, rfl, hr⟩, rfl⟩)
  go_ret
  exact ⟨⟨_, rfl, hr⟩, rfl⟩

theorem ret_bool {a b : Bool} (h : a = b) : Ending.returned (.bool a) = .returned (.bool b) := by rw [h]

/-- 's begins with p'. -/
def prefB (s p : List UInt8) : Bool := decide (p.length ≤ s.length) && (s.take p.length == p)

theorem prefB_raw (s p : ByteArray) (h : p.size ≤ s.size) : ((s.extract 0 p.size).toList == p.toList) = prefB s.data.toList p.data.toList := by
  unfold prefB
  rw [Lib.extract_toList, Lib.toList_data, ← Lib.size_eq, ← Lib.size_eq]
  simp [h]

theorem prefB_no (s p : ByteArray) (h : ¬ p.size ≤ s.size) : false = prefB s.data.toList p.data.toList := by
  unfold prefB
  rw [← Lib.size_eq, ← Lib.size_eq]
  simp [h]

set_option maxHeartbeats 400000 in
theorem hasPre (s p : ByteArray) (w : World) :
    Calls Try.prog 16 #[.string s, .string p] w fun e w' => e = .returned (.bool (prefB s.data.toList p.data.toList)) ∧ w' = w := by
  by_cases h : p.size ≤ s.size
  · go_enter Try.func16, Try.ntmps16
    go_wp2
    go_ret
    exact ⟨ret_bool (prefB_raw s p h), rfl⟩
  · go_enter Try.func16, Try.ntmps16
    go_wp2
    go_ret
    exact ⟨ret_bool (prefB_no s p h), rfl⟩

/-- 'k is full, or a beginning of full that a slash follows'. -/
def slashB (k full : List UInt8) : Bool := prefB full k && (decide (k.length = full.length) || full[k.length]? == some 47)

theorem prefB_le {s p : List UInt8} (h : prefB s p = true) : p.length ≤ s.length := by
  unfold prefB at h
  simp at h
  exact h.1

theorem slash_at (k full : ByteArray) (hp : prefB full.data.toList k.data.toList = true) (hlt : k.size < full.size) :
    (((full[k.size]'hlt).toNat : Int) == 47) = slashB k.data.toList full.data.toList := by
  unfold slashB
  rw [hp, ← Lib.size_eq, ← Lib.size_eq]
  have h1 : full.data.toList[k.size]? = some (full[k.size]'hlt) := by
    rw [List.getElem?_eq_getElem (by simpa using hlt)]; rfl
  rw [h1]
  have h2 : k.size ≠ full.size := by omega
  simp only [h2, decide_false, Bool.false_or, Bool.true_and]
  rw [Bool.eq_iff_iff]
  simp only [beq_iff_eq, Option.some.injEq]
  constructor
  · intro h; apply UInt8.toNat_inj.1; simp; omega
  · intro h; rw [h]; rfl

set_option maxHeartbeats 400000 in
theorem slashPre (k full : ByteArray) (w : World) (hk : k.size ≤ maxLen) (hf : full.size ≤ maxLen) :
    Calls Try.prog 24 #[.string k, .string full] w fun e w' => e = .returned (.bool (slashB k.data.toList full.data.toList)) ∧ w' = w := by
  unfold maxLen at hk hf
  cases hp : prefB full.data.toList k.data.toList with
  | false =>
    go_enter Try.func24, Try.ntmps24
    go_wp2_with (go_at_call 16; refine (hasPre full k _).mono ?_; rintro e w' ⟨rfl, rfl⟩; rw [hp])
    go_ret
    exact ⟨ret_bool (by unfold slashB; rw [hp]; rfl), rfl⟩
  | true =>
    have hle := prefB_le hp
    rw [← Lib.size_eq, ← Lib.size_eq] at hle
    by_cases he : k.size = full.size
    · have hb : (k.size == full.size) = true := by simp [he]
      go_enter Try.func24, Try.ntmps24
      go_wp2_with (go_at_call 16; refine (hasPre full k _).mono ?_; rintro e w' ⟨rfl, rfl⟩; rw [hp])
      go_ret
      exact ⟨ret_bool (by unfold slashB; rw [hp, ← Lib.size_eq, ← Lib.size_eq]; simp [he]), rfl⟩
    · have hlt : k.size < full.size := by omega
      have hb : ((k.size : Int) == (full.size : Int)) = false := by rw [beq_eq_false_iff_ne]; omega
      go_enter Try.func24, Try.ntmps24
      go_wp2_with (go_at_call 16; refine (hasPre full k _).mono ?_; rintro e w' ⟨rfl, rfl⟩; rw [hp])
      go_ret
      exact ⟨ret_bool (slash_at k full hp hlt), rfl⟩

set_option maxHeartbeats 400000 in
theorem credUser (u p : ByteArray) (w : World) :
    Calls Try.prog 13 #[.agg #[.string u, .string p]] w fun e w' => e = .returned (.string u) ∧ w' = w.alloc (.cells #[.string u, .string p] 29) := by
  go_enter Try.func13, Try.ntmps13
  go_wp2
  go_ret
  exact ⟨rfl, rfl⟩
set_option maxHeartbeats 400000 in
theorem credPass (u p : ByteArray) (w : World) :
    Calls Try.prog 14 #[.agg #[.string u, .string p]] w fun e w' => e = .returned (.string p) ∧ w' = w.alloc (.cells #[.string u, .string p] 29) := by
  go_enter Try.func14, Try.ntmps14
  go_wp2
  go_ret
  exact ⟨rfl, rfl⟩
set_option maxHeartbeats 400000 in
theorem newFile (m : Option Nat) (w : World) :
    Calls Try.prog 21 #[.map m] w fun e w' => e = .returned (.pointer (some ⟨w.heap.size, 0, none⟩)) ∧ w' = w.alloc (.cells #[.map m] 54) := by
  go_enter Try.func21, Try.ntmps21
  go_wp2
  go_ret
  exact ⟨rfl, rfl⟩
set_option maxHeartbeats 400000 in
theorem newCred (u p : ByteArray) (w : World) :
    Calls Try.prog 22 #[.string u, .string p] w fun e w' => e = .returned (.agg #[.string u, .string p]) ∧ w' = w.alloc (.cells #[.string u, .string p] 29) := by
  go_enter Try.func22, Try.ntmps22
  go_wp2
  exact bodyPost_ret (v := .agg #[.string u, .string p]) (by simp [results, Try.results22, go_sem]) rfl ⟨rfl, rfl⟩
end Go.Proofs.Qxb6601748a

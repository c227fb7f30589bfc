import Derived.Test.Qxb6601814aProg
import Derived.WalkKit
import Derived.WalkSpells
import Derived.WalkLawsBesides
import Derived.Lib.Strings
import Derived.Lib.SmallJoins
import Derived.Deep.OwnRows
namespace Go.Proofs.Qxb6601814a
open Go.RowKit
set_option linter.unusedVariables false

/-- The strings xs lie from ⟨b, off⟩ on. -/
def StrsAt (w : World) (b off : Nat) (xs : List ByteArray) : Prop := ∀ j x, xs[j]? = some x → w.cell? ⟨b, off + j, none⟩ = some (.string x)

/-- The same of a slice whose address is known only where there is an element. -/
def StrsOf (w : World) (ao : Option Addr) (xs : List ByteArray) : Prop := xs = [] ∨ ∃ b off, ao = some ⟨b, off, none⟩ ∧ StrsAt w b off xs

theorem lt_of_cell {w : World} {p : Addr} {v : Value} (h : w.cell? p = some v) : p.block < w.heap.size := by
  unfold World.cell? at h
  cases hh : w.heap[p.block]? with
  | none => simp [hh] at h
  | some o => exact (Array.getElem?_eq_some_iff.1 hh).1

/-- The bytes of all strings together. -/
def total (xs : List ByteArray) : Nat := (xs.map (·.size)).sum
theorem total_snoc (xs : List ByteArray) (k : Nat) (h : k < xs.length) : total (xs.take (k + 1)) = total (xs.take k) + (xs[k]'h).size := by
  unfold total
  rw [List.take_succ_eq_append_getElem h, List.map_append, List.sum_append]
  simp

/-- A bool; where it is true the strings are short. -/
def BoolRet (xs : List ByteArray) (e : Ending) : Prop := ∃ x, e = .returned (.bool x) ∧ (x = true → xs.length + total xs ≤ 1048576)

set_option maxHeartbeats 1000000 in
theorem zzb8 (ao : Option Addr) (cap : Nat) (xs : List ByteArray) (w : World) (hl : xs.length ≤ 9223372036854775807) (he : StrsOf w ao xs) :
    Calls Try.prog 8 #[.slice ao xs.length cap] w fun e w' => BoolRet xs e ∧ w' = w := by
  rcases he with rfl | ⟨b, off, rfl, he⟩
  · go_enter Try.func8, Try.ntmps8
    go_wp2
    refine wp_loop_rounds 1 ?_
    rw [rounds_succ]
    go_wp2
    all_goals
      go_ret
      exact ⟨⟨_, rfl, fun _ => by simp [total]⟩, rfl⟩
  · go_enter Try.func8, Try.ntmps8
    go_wp2
    · go_ret
      exact ⟨⟨_, rfl, fun h => by cases h⟩, rfl⟩
    go_loop [3, 4] (fun n i => ∃ k : Nat, k ≤ xs.length ∧ i = .int .i64 k ∧ n = .int .i64 ((xs.length : Int) + (total (xs.take k) : Int)) ∧ xs.length + total (xs.take k) ≤ 1048576) (fun _ i => xs.length - (intOf i).toNat)
    case atStart => exact ⟨0, Nat.zero_le _, rfl, by simp [total], by simp [total]; omega⟩
    case round =>
      obtain ⟨k, hk, rfl, rfl, hle⟩ := hrel
      by_cases hlt : k < xs.length
      · have c0 := he k _ (List.getElem?_eq_getElem hlt)
        have HT : Hid (total (xs.take (k + 1)) = total (xs.take k) + (xs[k]'hlt).size) := total_snoc xs k hlt
        generalize total (xs.take k) = tk at *
        go_wp2
        case roundEnd =>
          go_round
          case rel => exact ⟨k + 1, by omega, by go_num, by rw [HT.out]; go_num, by rw [HT.out]; omega⟩
          case measure => simp [intOf]; omega
        all_goals
          go_ret
          exact ⟨⟨_, rfl, fun h => by cases h⟩, rfl⟩
      · go_wp2
        go_ret
        exact ⟨⟨_, rfl, fun _ => by rw [List.take_of_length_le (by omega)] at hle; exact hle⟩, rfl⟩

set_option maxHeartbeats 1000000 in
theorem zzb13 (ao : Option Addr) (cap : Nat) (xs : List ByteArray) (w : World) (hl : xs.length ≤ 9223372036854775807) (he : StrsOf w ao xs) :
    Calls Try.prog 13 #[.slice ao xs.length cap] w fun e w' => BoolRet xs e ∧ w' = w := by
  rcases he with rfl | ⟨b, off, rfl, he⟩
  · go_enter Try.func13, Try.ntmps13
    go_wp2
    refine wp_loop_rounds 1 ?_
    rw [rounds_succ]
    go_wp2
    all_goals
      go_ret
      exact ⟨⟨_, rfl, fun _ => by simp [total]⟩, rfl⟩
  · go_enter Try.func13, Try.ntmps13
    go_wp2
    · go_ret
      exact ⟨⟨_, rfl, fun h => by cases h⟩, rfl⟩
    go_loop [3, 4] (fun n i => ∃ k : Nat, k ≤ xs.length ∧ i = .int .i64 k ∧ n = .int .i64 ((xs.length : Int) + (total (xs.take k) : Int)) ∧ xs.length + total (xs.take k) ≤ 1048576) (fun _ i => xs.length - (intOf i).toNat)
    case atStart => exact ⟨0, Nat.zero_le _, rfl, by simp [total], by simp [total]; omega⟩
    case round =>
      obtain ⟨k, hk, rfl, rfl, hle⟩ := hrel
      by_cases hlt : k < xs.length
      · have c0 := he k _ (List.getElem?_eq_getElem hlt)
        have HT : Hid (total (xs.take (k + 1)) = total (xs.take k) + (xs[k]'hlt).size) := total_snoc xs k hlt
        generalize total (xs.take k) = tk at *
        go_wp2
        case roundEnd =>
          go_round
          case rel => exact ⟨k + 1, by omega, by go_num, by rw [HT.out]; go_num, by rw [HT.out]; omega⟩
          case measure => simp [intOf]; omega
        all_goals
          go_ret
          exact ⟨⟨_, rfl, fun h => by cases h⟩, rfl⟩
      · go_wp2
        go_ret
        exact ⟨⟨_, rfl, fun _ => by rw [List.take_of_length_le (by omega)] at hle; exact hle⟩, rfl⟩

def IntRet (e : Ending) : Prop := ∃ x : Int, e = .returned (.int .i64 x)

set_option maxHeartbeats 1000000 in
theorem phraseB (ao : Option Addr) (cap : Nat) (xs : List ByteArray) (w : World) (hl : xs.length ≤ 65536) (he : StrsOf w ao xs) :
    Calls Try.prog 9 #[.slice ao xs.length cap] w fun e w' => IntRet e ∧ w' = w := by
  rcases he with rfl | ⟨b, off, rfl, he⟩
  · go_enter Try.func9, Try.ntmps9
    go_wp2
    refine wp_loop_rounds 1 ?_
    rw [rounds_succ]
    go_wp2
    go_ret
    exact ⟨⟨_, rfl⟩, rfl⟩
  · go_enter Try.func9, Try.ntmps9
    go_wp2
    go_loop [3, 4] (fun n i => ∃ k : Nat, k ≤ xs.length ∧ i = .int .i64 k ∧ ∃ x, n = .int .i64 x) (fun _ i => xs.length - (intOf i).toNat)
    case atStart => exact ⟨0, Nat.zero_le _, rfl, _, rfl⟩
    case round =>
      obtain ⟨k, hk, rfl, x, rfl⟩ := hrel
      by_cases hlt : k < xs.length
      · have c0 := he k _ (List.getElem?_eq_getElem hlt)
        go_wp2
        case roundEnd =>
          go_round
          case rel => exact ⟨k + 1, by omega, by go_num, _, rfl⟩
          case measure => simp [intOf]; omega
        all_goals
          go_ret
          exact ⟨⟨_, rfl⟩, rfl⟩
      · go_wp2
        go_ret
        exact ⟨⟨_, rfl⟩, rfl⟩

theorem row_of_owns {w : World} {base : Nat} {e : TypeId} {size g n : Nat} {xs : List Value} (h : w.ownsRow base e size (.slice (some ⟨g, 0, none⟩) n n) n xs) : ∃ f, w.rowIs g e (n * size) f := by
  rcases h.2 with ⟨h', _⟩ | ⟨g', cap', cur, h', hb, hg, hnc, hcm, hcs, htake⟩
  · simp at h'
  · simp only [Value.slice.injEq, Option.some.injEq, Addr.mk.injEq, and_true, true_and] at h'
    obtain ⟨rfl, rfl⟩ := h'
    exact ⟨fun i => cur[i]?.getD undef, cur, hg, hcs, fun i hi => by simp [Array.getElem?_eq_getElem (show i < cur.size by omega)]⟩

theorem Try.info9 : (Try.prog.info? 9).map (fun i => (i.zero, i.size, i.bytes)) = some (some (.string ⟨#[]⟩), 1, 16) := by kernel_rfl

set_option maxHeartbeats 1000000 in
theorem cloneNil (w : World) :
    Calls Try.prog 10 #[.slice none 0 0] w fun e w' => e = .returned (.slice none 0 0) ∧ w' = w := by
  have q22 := fun (w : World) (a : Option Addr) (n c n' c' : Nat) => Lib.run_eql_slice_nil (P := Try.prog) w _ _ a n c n' c' Try.underlying22
  go_enter Try.func10, Try.ntmps10
  go_wp2
  go_ret
  exact ⟨rfl, rfl⟩

set_option maxHeartbeats 1000000 in
theorem cloneSome (a : Addr) (cap : Nat) (xs : List ByteArray) (w : World) (hl : xs.length ≤ 65536) (he : StrsOf w (some a) xs) :
    Calls Try.prog 10 #[.slice (some a) xs.length cap] w fun e w' => e = .returned (.slice (some ⟨w.heap.size, 0, none⟩) xs.length xs.length) ∧ StrsAt w' w.heap.size 0 xs ∧ w.heap.size < w'.heap.size ∧ Below w.heap.size w w' := by
  have q22 := fun (w : World) (a : Option Addr) (n c n' c' : Nat) => Lib.run_eql_slice_nil (P := Try.prog) w _ _ a n c n' c' Try.underlying22
  obtain ⟨i0, hi, hz0, hz1, hz2⟩ := info_parts Try.info9
  go_enter Try.func10, Try.ntmps10
  go_wp2_with (at_make; refine wpList_make_full _ rfl _ _ 22 rfl w.heap.size 9 i0 _ 1 Try.underlying22 hi hz0 hz1 .i64 .i64 _ _ xs.length rfl rfl rfl rfl (by rw [hz2]; omega) (by unfold maxLen; omega) (Nat.le_refl _) ?_; intro w1 hown1 hg1)
  obtain ⟨f0, hrow0⟩ := row_of_owns hown1
  rw [Nat.mul_one] at hrow0
  clear hown1 q22
  rcases he with rfl | ⟨b, off, hab, he⟩
  · refine wp_loop_rounds 1 ?_
    rw [rounds_succ]
    go_wp2
    go_ret
    exact ⟨rfl, fun j x h => by simp at h, hrow0.lt, (Below.refl _ _).grown hg1 (Nat.le_refl _) (fun k hk => by cases hk)⟩
  cases hab
  go_loopw [4] (fun i wr => ∃ k : Nat, k ≤ xs.length ∧ i = .int .i64 k ∧ Below w.heap.size w wr ∧ ∃ f, wr.rowIs w.heap.size 9 xs.length f ∧ ∀ j x, j < k → xs[j]? = some x → f j = .string x) (fun i _ => xs.length - (intOf i).toNat)
  case atStart => exact ⟨0, Nat.zero_le _, rfl, (Below.refl _ _).grown hg1 (Nat.le_refl _) (fun k hk => by cases hk), f0, hrow0, fun j x hj => absurd hj (by omega)⟩
  case round =>
    obtain ⟨k, hk, rfl, hbel, f, hrow, hf⟩ := hrel
    by_cases hlt : k < xs.length
    · have d0 := he k _ (List.getElem?_eq_getElem hlt)
      have hb : b < w.heap.size := lt_of_cell d0
      have c0 := (hbel.cell (p := ⟨b, off + k, none⟩) hb).trans d0
      clear d0
      have g0 := hrow.cell (i := k) (by omega)
      have z0 := hrow.frozen k
      have hrow3 := hrow.set k (.string (xs[k]'hlt))
      have HR : Hid (∃ f', (wr.setCell ⟨w.heap.size, k, none⟩ (.string (xs[k]'hlt))).rowIs w.heap.size 9 xs.length f' ∧ ∀ j x, j < k + 1 → xs[j]? = some x → f' j = .string x) := by
        refine ⟨_, hrow3, fun j x hj hx => ?_⟩
        by_cases e : j = k
        · subst e
          rw [List.getElem?_eq_getElem hlt] at hx
          rw [if_pos rfl, Option.some.inj hx]
        · rw [if_neg e]
          exact hf j x (by omega) hx
      clear hrow3 hf hrow
      go_wp2
      go_roundw
      case rel => exact ⟨k + 1, by omega, by go_num, hbel.setCell (Nat.le_refl _) _, HR.out⟩
      case measure => simp [intOf]; omega
    · go_wp2
      go_ret
      refine ⟨rfl, fun j x hx => ?_, hrow.lt, hbel⟩
      have hj : j < xs.length := (List.getElem?_eq_some_iff.1 hx).1
      rw [Nat.zero_add, hrow.cell hj, hf j x (by omega) hx]
end Go.Proofs.Qxb6601814a

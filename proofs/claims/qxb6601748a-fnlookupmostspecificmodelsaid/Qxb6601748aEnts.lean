import Derived.Test.Qxb6601748aLeaf
import Derived.Deep.OwnRows
namespace Go.Proofs.Qxb6601748a
open Go.RowKit
set_option linter.unusedVariables false

/-- Entry i of a row of entries that begins at ⟨b, off⟩: its three strings. -/
def EntsAt (w : World) (b off len : Nat) (K U Q : Nat → ByteArray) : Prop :=
  ∀ i, i < len → w.cell? ⟨b, off + i * 3, none⟩ = some (.string (K i)) ∧ w.cell? ⟨b, off + i * 3 + 1, none⟩ = some (.string (U i)) ∧ w.cell? ⟨b, off + i * 3 + 2, none⟩ = some (.string (Q i))

/-- The same of a slice whose address is known only where there is an element. -/
def EntsOf (w : World) (ao : Option Addr) (len : Nat) (K U Q : Nat → ByteArray) : Prop :=
  len = 0 ∨ ∃ b off, ao = some ⟨b, off, none⟩ ∧ EntsAt w b off len K U Q

theorem lt_of_cell {w : World} {p : Addr} {v : Value} (h : w.cell? p = some v) : p.block < w.heap.size := by
  unfold World.cell? at h
  cases hh : w.heap[p.block]? with
  | none => simp [hh] at h
  | some o => exact (Array.getElem?_eq_some_iff.1 hh).1

def BoolRet (e : Ending) : Prop := ∃ x, e = .returned (.bool x)
def IntRet (e : Ending) : Prop := ∃ x, e = .returned (.int .i64 x)

set_option maxHeartbeats 1000000 in
theorem zzb (ao : Option Addr) (len cap : Nat) (K U Q : Nat → ByteArray) (nf : Bool) (host name : ByteArray) (w : World) (hl : len ≤ 9223372036854775807) (he : EntsOf w ao len K U Q) :
    Calls Try.prog 7 #[.slice ao len cap, .bool nf, .string host, .string name] w fun e w' => BoolRet e ∧ w' = w := by
  rcases he with rfl | ⟨b, off, rfl, he⟩
  · go_enter Try.func7, Try.ntmps7
    go_wp2
    refine wp_loop_rounds 1 ?_
    rw [rounds_succ]
    go_wp2
    all_goals
      go_ret
      exact ⟨⟨_, rfl⟩, rfl⟩
  · go_enter Try.func7, Try.ntmps7
    go_wp2
    · go_ret
      exact ⟨⟨_, rfl⟩, rfl⟩
    go_loop [9, 10] (fun n i => ∃ k : Nat, k ≤ len ∧ i = .int .i64 k ∧ ∃ x, n = .int .i64 x) (fun _ i => len - (intOf i).toNat)
    case atStart => exact ⟨0, Nat.zero_le _, rfl, _, rfl⟩
    case round =>
      obtain ⟨k, hk, rfl, x, rfl⟩ := hrel
      by_cases hlt : k < len
      · obtain ⟨c0, c1, c2⟩ := he k hlt
        go_wp2
        case roundEnd =>
          go_round
          case rel => exact ⟨k + 1, by omega, by go_num, _, rfl⟩
          case measure => simp [intOf]; omega
        all_goals
          go_ret
          exact ⟨⟨_, rfl⟩, rfl⟩
      · go_wp2
        all_goals
          go_ret
          exact ⟨⟨_, rfl⟩, rfl⟩

set_option maxHeartbeats 1000000 in
theorem authB (ao : Option Addr) (len cap : Nat) (K U Q : Nat → ByteArray) (w : World) (hl : len ≤ 9223372036854775807) (he : EntsOf w ao len K U Q) :
    Calls Try.prog 8 #[.slice ao len cap] w fun e w' => IntRet e ∧ Below w.heap.size w w' := by
  rcases he with rfl | ⟨b, off, rfl, he⟩
  · go_enter Try.func8, Try.ntmps8
    go_wp2
    refine wp_loop_rounds 1 ?_
    rw [rounds_succ]
    go_wp2
    go_ret
    exact ⟨⟨_, rfl⟩, Below.refl _ _⟩
  · go_enter Try.func8, Try.ntmps8
    go_wp2
    go_loopw [3, 4] (fun n i wr => ∃ k : Nat, k ≤ len ∧ i = .int .i64 k ∧ (∃ x, n = .int .i64 x) ∧ Below w.heap.size w wr) (fun _ i _ => len - (intOf i).toNat)
    case atStart => exact ⟨0, Nat.zero_le _, rfl, ⟨_, rfl⟩, Below.refl _ _⟩
    case round =>
      obtain ⟨k, hk, rfl, ⟨x, rfl⟩, hbel⟩ := hrel
      by_cases hlt : k < len
      · obtain ⟨d0, d1, d2⟩ := he k hlt
        have hb : b < w.heap.size := lt_of_cell d0
        have c0 := (hbel.cell (p := ⟨b, off + k * 3, none⟩) hb).trans d0
        have c1 := (hbel.cell (p := ⟨b, off + k * 3 + 1, none⟩) hb).trans d1
        have c2 := (hbel.cell (p := ⟨b, off + k * 3 + 2, none⟩) hb).trans d2
        clear d0 d1 d2
        go_wp2
        case roundEnd =>
          go_roundw
          case rel => exact ⟨k + 1, by omega, by go_num, ⟨_, rfl⟩, hbel.alloc hbel.size _⟩
          case measure => simp [intOf]; omega
        all_goals
          go_ret
          exact ⟨⟨_, rfl⟩, hbel.alloc hbel.size _⟩
      · go_wp2
        go_ret
        exact ⟨⟨_, rfl⟩, hbel⟩

end Go.Proofs.Qxb6601748a

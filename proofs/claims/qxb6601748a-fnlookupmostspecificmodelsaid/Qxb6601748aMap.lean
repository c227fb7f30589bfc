import Derived.Test.Qxb6601748aPlain
import Derived.Deep.RegionWith
import Derived.Deep.CutRange
namespace Go.Proofs.Qxb6601748a
open Go.RowKit Go.Maps Go.ChangeMaps
set_option linter.unusedVariables false

theorem law9 : Keyed Try.prog 9 := string_keyed Try.underlying9
theorem zero29 (w : World) : (zeroValue 29).run Try.prog w = .ok (.agg #[.string ⟨#[]⟩, .string ⟨#[]⟩]) w := by kernel_rfl
theorem key9 {s : ByteArray} (hs : s.size ≤ maxLen) : keyOf Try.prog 9 (.string s) = some (.string s.data.toList) := WideMaps.keyOf_string_mk Try.underlying9 hs

theorem run_makeMap_some (n : Nat) (w : World) (hn : (n : Int) ≤ 9223372036854775807) : (Instr.makeMap 45 (some (.int .i64 n))).run Try.prog w = .ok (.map (some w.heap.size)) (w.alloc (.map #[] 0)) := by
  simp [Instr.makeMap, run_underlying Try.underlying45, asInt, asIntOf, Result.andThen]

set_option maxHeartbeats 1000000 in
theorem buildNil (w : World) :
    Calls Try.prog 10 #[.slice none 0 0] w fun e w' => e = .returned (.pointer (some ⟨w.heap.size, 0, none⟩)) ∧ w' = w.alloc (.cells #[.map none] 54) := by
  have q22 := fun (w : World) (a : Option Addr) (n c n' c' : Nat) => Lib.run_eql_slice_nil (P := Try.prog) w _ _ a n c n' c' Try.underlying22
  go_enter Try.func10, Try.ntmps10
  go_wp2_with (go_at_call 21; refine (newFile _ _).mono ?_; rintro e w' ⟨rfl, rfl⟩)
  go_ret
  exact ⟨rfl, rfl⟩

set_option maxHeartbeats 1000000 in
theorem buildSome (g len : Nat) (K U Q : Nat → ByteArray) (w : World) (hl : len ≤ 65536) (he : EntsAt w g 0 len K U Q) (hK : ∀ i, (K i).size ≤ maxLen) :
    Calls Try.prog 10 #[.slice (some ⟨g, 0, none⟩) len len] w fun e w' => ∃ pb, e = .returned (.pointer (some ⟨pb, 0, none⟩)) ∧ w'.cell? ⟨pb, 0, none⟩ = some (.map (some w.heap.size)) ∧ (∃ D : DataW Unit, w'.ownsMap Try.prog 9 credElem w.heap.size len D ∧ MapIs D len K U Q) ∧ Below w.heap.size w w' := by
  have q22 := fun (w : World) (a : Option Addr) (n c n' c' : Nat) => Lib.run_eql_slice_nil (P := Try.prog) w _ _ a n c n' c' Try.underlying22
  have hmm := fun w => run_makeMap_some len w (by omega)
  go_enter Try.func10, Try.ntmps10
  go_wp2
  clear q22 hmm
  go_loopw [4] (fun i wr => ∃ k : Nat, k ≤ len ∧ i = .int .i64 k ∧ Below w.heap.size w wr ∧ ∃ D : DataW Unit, wr.ownsMap Try.prog 9 credElem w.heap.size k D ∧ MapIs D k K U Q) (fun i _ => len - (intOf i).toNat)
  case atStart => exact ⟨0, Nat.zero_le _, rfl, (Below.refl _ _).alloc (Nat.le_refl _) _, _, World.ownsMap_made _ _ _ _, MapIs.start _ _ _⟩
  case round =>
    obtain ⟨k, hk, rfl, hbel, D, hown, hD⟩ := hrel
    by_cases hlt : k < len
    · obtain ⟨d0, d1, d2⟩ := he k hlt
      have hb : g < w.heap.size := lt_of_cell d0
      have hbr : g < wr.heap.size := Nat.lt_of_lt_of_le hb hbel.size
      have c0 := (hbel.cell (p := ⟨g, 0 + k * 3, none⟩) hb).trans d0
      have c1 := (hbel.cell (p := ⟨g, 0 + k * 3 + 1, none⟩) hb).trans d1
      have c2 := (hbel.cell (p := ⟨g, 0 + k * 3 + 2, none⟩) hb).trans d2
      rw [Nat.zero_add] at c0 c1 c2
      clear d0 d1 d2
      have hnew : ∃ w2, (Instr.mapUpdate 45 (.map (some w.heap.size)) (.string (K k)) (.agg #[.string (U k), .string (Q k)])).run Try.prog (wr.alloc (.cells #[.string (U k), .string (Q k)] 29)).drew = .ok () w2 ∧ w2.ownsMap Try.prog 9 credElem w.heap.size (k + 1) (D.put (.string (K k).data.toList) (credDat (U k) (Q k))) ∧ (wr.alloc (.cells #[.string (U k), .string (Q k)] 29)).drew.grownBy w2 (some w.heap.size) :=
        ((hown.alloc (.cells #[.string (U k), .string (Q k)] 29)).drew).update law9 Try.underlying45 (by unfold maxLen; omega) (key9 (hK k)) (credElem_mk _ _)
      obtain ⟨w2, hrun, hown2, hg2⟩ := hnew
      go_wp2
      go_region_with (go_at_call 22; refine (newCred _ _ _).mono ?_; rintro e w' ⟨rfl, rfl⟩)
      all_goals
        go_wp2
        go_roundw
        case rel => exact ⟨k + 1, by omega, by go_num, (hbel.alloc hbel.size _).drew.grown hg2 (by have := hbel.size; simp; omega) (fun j hj => by cases hj; exact Nat.le_refl _), _, hown2, hD.step hown.isMap⟩
        case measure => simp [intOf]; omega
    · obtain rfl : k = len := by omega
      go_wp2_with (go_at_call 21; refine (newFile _ _).mono ?_; rintro e w' ⟨rfl, rfl⟩)
      go_ret
      exact ⟨_, rfl, by simp, ⟨D, hown.alloc _, hD⟩, hbel.alloc hbel.size _⟩
end Go.Proofs.Qxb6601748a

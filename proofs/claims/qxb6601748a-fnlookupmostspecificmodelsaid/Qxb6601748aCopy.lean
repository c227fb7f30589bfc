import Derived.Test.Qxb6601748aEnts
import Derived.Deep.OwnRows
namespace Go.Proofs.Qxb6601748a
open Go.RowKit
set_option linter.unusedVariables false

theorem Try.info38 : (Try.prog.info? 38).map (fun i => (i.zero, i.size, i.bytes)) = some (some (.agg #[.string ByteArray.empty, .string ByteArray.empty, .string ByteArray.empty]), 3, 48) := by kernel_rfl

theorem row_of_owns {w : World} {base : Nat} {e : TypeId} {size g n : Nat} {xs : List Value} (h : w.ownsRow base e size (.slice (some ⟨g, 0, none⟩) n n) n xs) : ∃ f, w.rowIs g e (n * size) f := by
  rcases h.2 with ⟨h', _⟩ | ⟨g', cap', cur, h', hb, hg, hnc, hcm, hcs, htake⟩
  · simp at h'
  · simp only [Value.slice.injEq, Option.some.injEq, Addr.mk.injEq, and_true, true_and] at h'
    obtain ⟨rfl, rfl⟩ := h'
    exact ⟨fun i => cur[i]?.getD undef, cur, hg, hcs, fun i hi => by simp [Array.getElem?_eq_getElem (show i < cur.size by omega)]⟩

def entCell (K U Q : Nat → ByteArray) (j : Nat) : Value := if j % 3 = 0 then .string (K (j / 3)) else if j % 3 = 1 then .string (U (j / 3)) else .string (Q (j / 3))

set_option maxHeartbeats 1000000 in
theorem copyNil (w : World) :
    Calls Try.prog 9 #[.slice none 0 0] w fun e w' => e = .returned (.slice none 0 0) ∧ w' = w := by
  have q22 := fun (w : World) (a : Option Addr) (n c n' c' : Nat) => Lib.run_eql_slice_nil (P := Try.prog) w _ _ a n c n' c' Try.underlying22
  go_enter Try.func9, Try.ntmps9
  go_wp2
  go_ret
  exact ⟨rfl, rfl⟩

set_option maxHeartbeats 1000000 in
theorem copyEnts (a : Addr) (len cap : Nat) (K U Q : Nat → ByteArray) (w : World) (hl : len * 48 ≤ 281474976710656) (he : EntsOf w (some a) len K U Q) :
    Calls Try.prog 9 #[.slice (some a) len cap] w fun e w' => e = .returned (.slice (some ⟨w.heap.size, 0, none⟩) len len) ∧ EntsAt w' w.heap.size 0 len K U Q ∧ Below w.heap.size w w' := by
  have q22 := fun (w : World) (a : Option Addr) (n c n' c' : Nat) => Lib.run_eql_slice_nil (P := Try.prog) w _ _ a n c n' c' Try.underlying22
  obtain ⟨i0, hi, hz0, hz1, hz2⟩ := info_parts Try.info38
  go_enter Try.func9, Try.ntmps9
  go_wp2_with (at_make; refine wpList_make_full _ rfl _ _ 22 rfl w.heap.size 38 i0 _ 3 Try.underlying22 hi hz0 hz1 .i64 .i64 _ _ len rfl rfl rfl rfl (by rw [hz2]; omega) (by unfold maxLen; omega) (Nat.le_refl _) ?_; intro w1 hown1 hg1)
  obtain ⟨f0, hrow0⟩ := row_of_owns hown1
  clear hown1 q22
  rcases he with rfl | ⟨b, off, hab, he⟩
  · refine wp_loop_rounds 1 ?_
    rw [rounds_succ]
    go_wp2
    go_ret
    exact ⟨rfl, fun i hi => absurd hi (by omega), (Below.refl _ _).grown hg1 (Nat.le_refl _) (fun k hk => by cases hk)⟩
  cases hab
  go_loopw [4] (fun i wr => ∃ k : Nat, k ≤ len ∧ i = .int .i64 k ∧ Below w.heap.size w wr ∧ ∃ f, wr.rowIs w.heap.size 38 (len * 3) f ∧ ∀ j, j < k * 3 → f j = entCell K U Q j) (fun i _ => len - (intOf i).toNat)
  case atStart => exact ⟨0, Nat.zero_le _, rfl, (Below.refl _ _).grown hg1 (Nat.le_refl _) (fun k hk => by cases hk), f0, hrow0, fun j hj => absurd hj (by omega)⟩
  case round =>
    obtain ⟨k, hk, rfl, hbel, f, hrow, hf⟩ := hrel
    by_cases hlt : k < len
    · obtain ⟨d0, d1, d2⟩ := he k hlt
      have hb : b < w.heap.size := lt_of_cell d0
      have c0 := (hbel.cell (p := ⟨b, off + k * 3, none⟩) hb).trans d0
      have c1 := (hbel.cell (p := ⟨b, off + k * 3 + 1, none⟩) hb).trans d1
      have c2 := (hbel.cell (p := ⟨b, off + k * 3 + 2, none⟩) hb).trans d2
      clear d0 d1 d2
      have g0 := hrow.cell (i := k * 3) (by omega)
      have g1 := hrow.cell (i := k * 3 + 1) (by omega)
      have g2 := hrow.cell (i := k * 3 + 2) (by omega)
      have z0 := hrow.frozen (k * 3)
      have z1 := hrow.frozen (k * 3 + 1)
      have z2 := hrow.frozen (k * 3 + 2)
      have hrow3 := ((hrow.set (k * 3) (.string (K k))).set (k * 3 + 1) (.string (U k))).set (k * 3 + 2) (.string (Q k))
      have HR : Hid (∃ f', (((wr.setCell ⟨w.heap.size, k * 3, none⟩ (.string (K k))).setCell ⟨w.heap.size, k * 3 + 1, none⟩ (.string (U k))).setCell ⟨w.heap.size, k * 3 + 2, none⟩ (.string (Q k))).rowIs w.heap.size 38 (len * 3) f' ∧ ∀ j, j < (k + 1) * 3 → f' j = entCell K U Q j) := by
        refine ⟨_, hrow3, fun j hj => ?_⟩
        unfold entCell
        by_cases e2 : j = k * 3 + 2
        · subst e2; rw [if_pos rfl, if_neg (by omega), if_neg (by omega), show (k * 3 + 2) / 3 = k by omega]
        · rw [if_neg e2]
          by_cases e1 : j = k * 3 + 1
          · subst e1; rw [if_pos rfl, if_neg (by omega), if_pos (by omega), show (k * 3 + 1) / 3 = k by omega]
          · rw [if_neg e1]
            by_cases e0 : j = k * 3
            · subst e0; rw [if_pos rfl, if_pos (by omega), show (k * 3) / 3 = k by omega]
            · rw [if_neg e0, hf j (by omega)]; rfl
      clear hrow3 hf hrow
      go_wp2
      go_roundw
      case rel => exact ⟨k + 1, by omega, by go_num, ((hbel.setCell (Nat.le_refl _) _).setCell (Nat.le_refl _) _).setCell (Nat.le_refl _) _, HR.out⟩
      case measure => simp [intOf]; omega
    · go_wp2
      go_ret
      refine ⟨rfl, fun i hi => ⟨?_, ?_, ?_⟩, hbel⟩
      · rw [Nat.zero_add, hrow.cell (by omega), hf _ (by omega)]; simp [entCell]
      · rw [Nat.zero_add, hrow.cell (by omega), hf _ (by omega)]; simp [entCell, show (i * 3 + 1) % 3 = 1 by omega, show (i * 3 + 1) / 3 = i by omega]
      · rw [Nat.zero_add, hrow.cell (by omega), hf _ (by omega)]; simp [entCell, show (i * 3 + 2) % 3 = 2 by omega, show (i * 3 + 2) / 3 = i by omega]
end Go.Proofs.Qxb6601748a

/-
  The small functions: the clones, the bound on the lengths.
-/
import Derived.Test.Qxb6602302aMem2
namespace Go.Proofs.Qxb6602302a
open Go.RowKit
set_option linter.unusedVariables false
set_option linter.unusedSimpArgs false

theorem Try.info9 : (Try.prog.info? 9).map (fun i => (i.zero, i.size, i.bytes)) = some (some (.string ⟨#[]⟩), 1, 16) := by kernel_rfl
theorem Try.info25 : (Try.prog.info? 25).map (fun i => (i.zero, i.size, i.bytes)) = some (some (.slice none 0 0), 1, 24) := by kernel_rfl
theorem Try.info63 : (Try.prog.info? 63).map (fun i => (i.zero, i.size, i.bytes)) = some (some (.string ⟨#[]⟩), 1, 16) := by kernel_rfl

def StrsAt (w : World) (b off : Nat) (xs : List ByteArray) : Prop := ∀ j x, xs[j]? = some x → w.cell? ⟨b, off + j, none⟩ = some (.string x)
def StrsOf (w : World) (ao : Option Addr) (xs : List ByteArray) : Prop := xs = [] ∨ ∃ b off, ao = some ⟨b, off, none⟩ ∧ StrsAt w b off xs
theorem StrsOf.below {w w' : World} {ao : Option Addr} {xs : List ByteArray} (h : StrsOf w ao xs) (hb : Below w.heap.size w w') : StrsOf w' ao xs := by
  rcases h with h | ⟨b, off, h1, h2⟩
  · exact .inl h
  · exact .inr ⟨b, off, h1, fun j x hx => (hb.cell (p := ⟨b, off + j, none⟩) (lt_of_cell (h2 j x hx))).trans (h2 j x hx)⟩

/-- A slice of n elements is handed back; P holds of its address. -/
def SlRet (n : Nat) (P : Option Addr → Prop) (e : Ending) : Prop := ∃ ao c, e = .returned (.slice ao n c) ∧ P ao

theorem below_made {w w1 : World} (g1 : w.grownBy w1 none) : Below w.heap.size w w1 := (Below.refl _ _).grown g1 (Nat.le_refl _) (by simp)
theorem below_grown {w w' : World} (h : Below w.heap.size w w') (row : Option Nat) : w.grownBy w' row := ⟨h.os, h.tape, h.output, h.size, fun k hk _ => h.block k hk⟩

set_option maxHeartbeats 1000000 in
theorem cloneStrs (ao : Option Addr) (cap : Nat) (xs : List ByteArray) (w : World) (hl : xs.length ≤ 65536) (he : StrsOf w ao xs) :
    Calls Try.prog 8 #[.slice ao xs.length cap] w fun e w' => SlRet xs.length (fun ao' => StrsOf w' ao' xs) e ∧ Below w.heap.size w w' := by
  have q22 := fun (w : World) (a : Option Addr) (n c n' c' : Nat) => Lib.run_eql_slice_nil (P := Try.prog) w _ _ a n c n' c' Try.underlying22
  obtain ⟨i0, hi, hz0, hz1, hz2⟩ := info_parts Try.info9
  cases ao with
  | none =>
    obtain rfl : xs = [] := by
      rcases he with h | ⟨b, off, h, _⟩
      · exact h
      · cases h
    go_enter Try.func8, Try.ntmps8
    go_wp2
    go_ret
    exact ⟨⟨none, 0, rfl, .inl rfl⟩, Below.refl _ _⟩
  | some a =>
    go_enter Try.func8, Try.ntmps8
    go_wp2_with (at_make; refine wpList_mk _ rfl _ _ 22 rfl 9 i0 _ Try.underlying22 hi hz0 hz1 rfl .i64 .i64 _ _ xs.length xs.length rfl rfl rfl rfl (Nat.le_refl _) (by rw [hz2]; omega) (by unfold maxLen; omega) ?_; intro w1 z1 r1 g1; have Z1 : Hid (w1.heap.size = w.heap.size + 1) := z1; clear z1)
    clear q22
    go_loopg [12] xs.length (fun gk i wr => ∃ k : Nat, k ≤ xs.length ∧ gk = xs.length - k ∧ i = .int .i64 (k : Int) ∧ Below w.heap.size w wr ∧ ∃ f, wr.rowIs w.heap.size 9 xs.length f ∧ ∀ j x, j < k → xs[j]? = some x → f j = .string x)
    case atStart => exact ⟨0, Nat.zero_le _, by omega, rfl, below_made g1, _, r1, fun j x hj => absurd hj (by omega)⟩
    case round =>
      clear r1 g1 Z1
      obtain ⟨k, hk, hgk, rfl, hbel, f, hrow, hf⟩ := hrel
      by_cases hlt : k < xs.length
      · rcases he with rfl | ⟨b, off, hab, he⟩
        · simp at hlt
        cases hab
        obtain ⟨x, hx⟩ : ∃ x, xs[k]? = some x := ⟨_, List.getElem?_eq_getElem hlt⟩
        have d0 := he k x hx
        have c0 := (hbel.cell (p := ⟨b, off + k, none⟩) (lt_of_cell d0)).trans d0
        have g0 := hrow.cell hlt
        have z0 := hrow.frozen k
        have HR : Hid (∃ f', (wr.setCell ⟨w.heap.size, k, none⟩ (.string x)).rowIs w.heap.size 9 xs.length f' ∧ ∀ j y, j < k + 1 → xs[j]? = some y → f' j = .string y) := by
          refine ⟨_, hrow.set k (.string x), fun j y hj hy => ?_⟩
          by_cases e : j = k
          · subst e
            rw [hx] at hy
            rw [if_pos rfl, Option.some.inj hy]
          · rw [if_neg e]
            exact hf j y (by omega) hy
        clear hx d0 hf hrow he
        go_wp2
        go_roundg (xs.length - (k + 1))
        case measure => omega
        case rel => exact ⟨k + 1, by omega, rfl, by go_num, hbel.setCell (Nat.le_refl _) _, HR.out⟩
      · go_wp2
        go_ret
        refine ⟨⟨_, _, rfl, .inr ⟨w.heap.size, 0, rfl, fun j x hx => ?_⟩⟩, hbel⟩
        have hj : j < xs.length := (List.getElem?_eq_some_iff.1 hx).1
        rw [Nat.zero_add, hrow.cell hj, hf j x (by omega) hx]

set_option maxHeartbeats 1000000 in
theorem txnsW (ao : Option Addr) (cap : Nat) (xs : List ByteArray) (w : World) (hl : xs.length ≤ 65536) (he : StrsOf w ao xs) :
    Calls Try.prog 21 #[.slice ao xs.length cap] w fun e w' => SlRet xs.length (fun _ => True) e ∧ Below w.heap.size w w' := by
  have q22 := fun (w : World) (a : Option Addr) (n c n' c' : Nat) => Lib.run_eql_slice_nil (P := Try.prog) w _ _ a n c n' c' Try.underlying22
  obtain ⟨i0, hi, hz0, hz1, hz2⟩ := info_parts Try.info63
  cases ao with
  | none =>
    obtain rfl : xs = [] := by
      rcases he with h | ⟨b, off, h, _⟩
      · exact h
      · cases h
    go_enter Try.func21, Try.ntmps21
    go_wp2
    go_ret
    exact ⟨⟨none, 0, rfl, trivial⟩, Below.refl _ _⟩
  | some a =>
    go_enter Try.func21, Try.ntmps21
    go_wp2_with (at_make; refine wpList_mk _ rfl _ _ 47 rfl 63 i0 _ Try.underlying47 hi hz0 hz1 rfl .i64 .i64 _ _ xs.length xs.length rfl rfl rfl rfl (Nat.le_refl _) (by rw [hz2]; omega) (by unfold maxLen; omega) ?_; intro w1 z1 r1 g1; have Z1 : Hid (w1.heap.size = w.heap.size + 1) := z1; clear z1)
    clear q22
    go_loopg [12] xs.length (fun gk i wr => ∃ k : Nat, k ≤ xs.length ∧ gk = xs.length - k ∧ i = .int .i64 (k : Int) ∧ Below w.heap.size w wr ∧ ∃ f, wr.rowIs w.heap.size 63 xs.length f)
    case atStart => exact ⟨0, Nat.zero_le _, by omega, rfl, below_made g1, _, r1⟩
    case round =>
      clear r1 g1 Z1
      obtain ⟨k, hk, hgk, rfl, hbel, f, hrow⟩ := hrel
      by_cases hlt : k < xs.length
      · rcases he with rfl | ⟨b, off, hab, he⟩
        · simp at hlt
        cases hab
        obtain ⟨x, hx⟩ : ∃ x, xs[k]? = some x := ⟨_, List.getElem?_eq_getElem hlt⟩
        have d0 := he k x hx
        have c0 := (hbel.cell (p := ⟨b, off + k, none⟩) (lt_of_cell d0)).trans d0
        have g0 := hrow.cell hlt
        have z0 := hrow.frozen k
        have HR : Hid (∃ f', (wr.setCell ⟨w.heap.size, k, none⟩ (.string x)).rowIs w.heap.size 63 xs.length f') := ⟨_, hrow.set k (.string x)⟩
        clear hx d0 hrow he
        go_wp2
        go_roundg (xs.length - (k + 1))
        case measure => omega
        case rel => exact ⟨k + 1, by omega, rfl, by go_num, hbel.setCell (Nat.le_refl _) _, HR.out⟩
      · go_wp2
        go_ret
        exact ⟨⟨_, _, rfl, trivial⟩, hbel⟩

/-- The numbers r lie in a block above OB. -/
def IntsUp (OB : Nat) (wr : World) (ao : Option Addr) (r : List Int) : Prop := r = [] ∨ ∃ b off, ao = some ⟨b, off, none⟩ ∧ OB < b ∧ b < wr.heap.size ∧ ∀ j x, r[j]? = some x → wr.cell? ⟨b, off + j, none⟩ = some (.int .i64 x)
theorem IntsUp.kept {OB : Nat} {wr w' : World} {ao : Option Addr} {r : List Int} (h : IntsUp OB wr ao r) (hg : wr.grownBy w' (some OB)) : IntsUp OB w' ao r := by
  rcases h with h | ⟨b, off, h1, h2, h3, h4⟩
  · exact .inl h
  · refine .inr ⟨b, off, h1, h2, Nat.lt_of_lt_of_le h3 hg.size, fun j x hx => hg.cell (h4 j x hx) ?_⟩
    simp
    omega
theorem IntsUp.of {OB : Nat} {wr : World} {ao : Option Addr} {r : List Int} (h : IntsUp OB wr ao r) : IntsOf wr ao r := by
  rcases h with h | ⟨b, off, h1, h2, h3, h4⟩
  · exact .inl h
  · exact .inr ⟨b, off, h1, h4⟩

set_option maxHeartbeats 1000000 in
theorem cloneInts (ao : Option Addr) (cap : Nat) (xs : List Int) (w : World) (OB : Nat) (hOB : OB < w.heap.size) (hl : xs.length ≤ 1048576) (he : IntsOf w ao xs) :
    Calls Try.prog 17 #[.slice ao xs.length cap] w fun e w' => SlRet xs.length (fun ao' => IntsUp OB w' ao' xs) e ∧ Below w.heap.size w w' := by
  have q22 := fun (w : World) (a : Option Addr) (n c n' c' : Nat) => Lib.run_eql_slice_nil (P := Try.prog) w _ _ a n c n' c' Try.underlying25
  obtain ⟨i0, hi, hz0, hz1, hz2⟩ := info_parts Try.info3
  cases ao with
  | none =>
    obtain rfl : xs = [] := by
      rcases he with h | ⟨b, off, h, _⟩
      · exact h
      · cases h
    go_enter Try.func17, Try.ntmps17
    go_wp2
    go_ret
    exact ⟨⟨none, 0, rfl, .inl rfl⟩, Below.refl _ _⟩
  | some a =>
    go_enter Try.func17, Try.ntmps17
    go_wp2_with (at_make; refine wpList_mk _ rfl _ _ 25 rfl 3 i0 _ Try.underlying25 hi hz0 hz1 rfl .i64 .i64 _ _ xs.length xs.length rfl rfl rfl rfl (Nat.le_refl _) (by rw [hz2]; omega) (by unfold maxLen; omega) ?_; intro w1 z1 r1 g1; have Z1 : Hid (w1.heap.size = w.heap.size + 1) := z1; clear z1)
    clear q22
    go_loopg [12] xs.length (fun gk i wr => ∃ k : Nat, k ≤ xs.length ∧ gk = xs.length - k ∧ i = .int .i64 (k : Int) ∧ Below w.heap.size w wr ∧ ∃ f, wr.rowIs w.heap.size 3 xs.length f ∧ ∀ j x, j < k → xs[j]? = some x → f j = .int .i64 x)
    case atStart => exact ⟨0, Nat.zero_le _, by omega, rfl, below_made g1, _, r1, fun j x hj => absurd hj (by omega)⟩
    case round =>
      clear r1 g1 Z1
      obtain ⟨k, hk, hgk, rfl, hbel, f, hrow, hf⟩ := hrel
      by_cases hlt : k < xs.length
      · rcases he with rfl | ⟨b, off, hab, he⟩
        · simp at hlt
        cases hab
        obtain ⟨x, hx⟩ : ∃ x, xs[k]? = some x := ⟨_, List.getElem?_eq_getElem hlt⟩
        have d0 := he k x hx
        have c0 := (hbel.cell (p := ⟨b, off + k, none⟩) (lt_of_cell d0)).trans d0
        have g0 := hrow.cell hlt
        have z0 := hrow.frozen k
        have HR : Hid (∃ f', (wr.setCell ⟨w.heap.size, k, none⟩ (.int .i64 x)).rowIs w.heap.size 3 xs.length f' ∧ ∀ j y, j < k + 1 → xs[j]? = some y → f' j = .int .i64 y) := by
          refine ⟨_, hrow.set k (.int .i64 x), fun j y hj hy => ?_⟩
          by_cases e : j = k
          · subst e
            rw [hx] at hy
            rw [if_pos rfl, Option.some.inj hy]
          · rw [if_neg e]
            exact hf j y (by omega) hy
        clear hx d0 hf hrow he
        go_wp2
        go_roundg (xs.length - (k + 1))
        case measure => omega
        case rel => exact ⟨k + 1, by omega, rfl, by go_num, hbel.setCell (Nat.le_refl _) _, HR.out⟩
      · go_wp2
        go_ret
        refine ⟨⟨_, _, rfl, .inr ⟨w.heap.size, 0, rfl, hOB, hrow.lt, fun j x hx => ?_⟩⟩, hbel⟩
        have hj : j < xs.length := (List.getElem?_eq_some_iff.1 hx).1
        rw [Nat.zero_add, hrow.cell hj, hf j x (by omega) hx]

set_option maxHeartbeats 1000000 in
theorem cloneRows (ao : Option Addr) (cap : Nat) (rows : List (List Int)) (w : World) (hl : rows.length ≤ 65536) (hrl : ∀ r, r ∈ rows → r.length ≤ 1048576) (he : RowsOf w ao rows) :
    Calls Try.prog 9 #[.slice ao rows.length cap] w fun e w' => SlRet rows.length (fun ao' => RowsOf w' ao' rows) e ∧ Below w.heap.size w w' := by
  have q22 := fun (w : World) (a : Option Addr) (n c n' c' : Nat) => Lib.run_eql_slice_nil (P := Try.prog) w _ _ a n c n' c' Try.underlying23
  obtain ⟨i0, hi, hz0, hz1, hz2⟩ := info_parts Try.info25
  cases ao with
  | none =>
    obtain rfl : rows = [] := by
      rcases he with h | ⟨b, off, h, _⟩
      · exact h
      · cases h
    go_enter Try.func9, Try.ntmps9
    go_wp2
    go_ret
    exact ⟨⟨none, 0, rfl, .inl rfl⟩, Below.refl _ _⟩
  | some a =>
    go_enter Try.func9, Try.ntmps9
    go_wp2_with (at_make; refine wpList_mk _ rfl _ _ 23 rfl 25 i0 _ Try.underlying23 hi hz0 hz1 rfl .i64 .i64 _ _ rows.length rows.length rfl rfl rfl rfl (Nat.le_refl _) (by rw [hz2]; omega) (by unfold maxLen; omega) ?_; intro w1 z1 r1 g1; have Z1 : Hid (w1.heap.size = w.heap.size + 1) := z1; clear z1)
    clear q22
    go_loopg [12] rows.length (fun gk i wr => ∃ k : Nat, k ≤ rows.length ∧ gk = rows.length - k ∧ i = .int .i64 (k : Int) ∧ Below w.heap.size w wr ∧ ∃ f, wr.rowIs w.heap.size 25 rows.length f ∧ ∀ j r, j < k → rows[j]? = some r → ∃ ao c, f j = .slice ao r.length c ∧ IntsUp w.heap.size wr ao r)
    case atStart => exact ⟨0, Nat.zero_le _, by omega, rfl, below_made g1, _, r1, fun j x hj => absurd hj (by omega)⟩
    case round =>
      clear r1 g1 Z1
      obtain ⟨k, hk, hgk, rfl, hbel, f, hrow, hf⟩ := hrel
      by_cases hlt : k < rows.length
      · rcases he with rfl | ⟨b, off, hab, he⟩
        · simp at hlt
        cases hab
        obtain ⟨r, hr⟩ : ∃ r, rows[k]? = some r := ⟨_, List.getElem?_eq_getElem hlt⟩
        obtain ⟨ra, rc, d0, d1⟩ := he k r hr
        have c0 := (hbel.cell (p := ⟨b, off + k, none⟩) (lt_of_cell d0)).trans d0
        have hri := d1.below (N := 0) hbel
        have hrl1 := hrl r (List.mem_iff_getElem?.2 ⟨k, hr⟩)
        have HRR : Hid (rows[k]? = some r) := hr
        have hlt0 := hrow.lt
        clear d0 d1 hr
        go_wp2_with fail
        refine (cloneInts ra rc r _ w.heap.size hlt0 hrl1 hri).mono ?_
        rintro e w1 ⟨⟨ao1, cp1, rfl, hup⟩, hb1⟩
        have hrow1 := rowIs_kept hrow (below_grown hb1 none) (by simp)
        have g0 := hrow1.cell hlt
        have z0 := hrow1.frozen k
        have HR : Hid (∃ f', (w1.setCell ⟨w.heap.size, k, none⟩ (.slice ao1 r.length cp1)).rowIs w.heap.size 25 rows.length f' ∧ ∀ j r', j < k + 1 → rows[j]? = some r' → ∃ ao c, f' j = .slice ao r'.length c ∧ IntsUp w.heap.size (w1.setCell ⟨w.heap.size, k, none⟩ (.slice ao1 r.length cp1)) ao r') := by
          refine ⟨_, hrow1.set k _, fun j r' hj hr' => ?_⟩
          by_cases e : j = k
          · subst e
            rw [HRR.out] at hr'
            cases hr'
            exact ⟨ao1, cp1, if_pos rfl, hup.kept (grown_set _ _ _)⟩
          · obtain ⟨ao2, c2, h1, h2⟩ := hf j r' (by omega) hr'
            exact ⟨ao2, c2, by rw [if_neg e, h1], (h2.kept (below_grown hb1 _)).kept (grown_set _ _ _)⟩
        clear hf hrow hup
        go_wp2
        go_roundg (rows.length - (k + 1))
        case measure => omega
        case rel => exact ⟨k + 1, by omega, rfl, by go_num, (hbel.trans (hb1.mono hbel.size)).setCell (Nat.le_refl _) _, HR.out⟩
      · go_wp2
        go_ret
        refine ⟨⟨_, _, rfl, .inr ⟨w.heap.size, 0, rfl, fun j r hr => ?_⟩⟩, hbel⟩
        have hj : j < rows.length := (List.getElem?_eq_some_iff.1 hr).1
        obtain ⟨ao1, c1, h1, h2⟩ := hf j r (by omega) hr
        exact ⟨ao1, c1, by rw [Nat.zero_add, hrow.cell hj, h1], h2.of⟩
end Go.Proofs.Qxb6602302a

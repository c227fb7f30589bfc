/-
  Memory: what the walks of this seat say of blocks: own rows, stacks, rows of numbers that came in.
-/
import Derived.Test.Qxb6602302aProg
import Derived.Test.Qxb6602302aTar2
import Derived.Test.Qxb6602302aKos3
import Derived.WalkKit
import Derived.WalkSpells
import Derived.WalkLawsBesides
import Derived.WalkSmall
import Derived.BigQuiet
import Derived.Lib.Strings
import Derived.Deep.OwnRows
import Derived.Deep.LoopGhost
import Derived.Maps.AppendAt
namespace Go.Proofs.Qxb6602302a
open Go.RowKit
set_option linter.unusedVariables false
set_option linter.unusedSimpArgs false

theorem Try.info3 : (Try.prog.info? 3).map (fun i => (i.zero, i.size, i.bytes)) = some (some (.int .i64 0), 1, 8) := by kernel_rfl
theorem Try.info4 : (Try.prog.info? 4).map (fun i => (i.zero, i.size, i.bytes)) = some (some (.bool false), 1, 1) := by kernel_rfl
theorem Try.info65 : (Try.prog.info? 65).map (fun i => (i.zero, i.size, i.bytes)) = some (some (.agg #[.int .i64 0, .int .i64 0]), 2, 16) := by kernel_rfl

theorem lt_of_cell {w : World} {p : Addr} {v : Value} (h : w.cell? p = some v) : p.block < w.heap.size := by
  unfold World.cell? at h
  cases hh : w.heap[p.block]? with
  | none => simp [hh] at h
  | some o => exact (Array.getElem?_eq_some_iff.1 hh).1

theorem grown_set (w : World) (a : Addr) (u : Value) : w.grownBy (w.setCell a u) (some a.block) where
  os := rfl
  tape := rfl
  output := rfl
  size := ((Below.refl 0 w).setCell (Nat.zero_le _) u).size
  block := fun k hk hne => Below.heap_setCell w a u k (fun e => hne (by rw [e]))

theorem grown_alloc (w : World) (o : Obj) (row : Option Nat) : w.grownBy (w.alloc o) row where
  os := rfl
  tape := rfl
  output := rfl
  size := ((Below.refl 0 w).alloc (Nat.zero_le _) o).size
  block := fun k hk hne => Below.heap_alloc w o k hk

theorem rowIs_kept {w w' : World} {b : Nat} {t : TypeId} {n : Nat} {f : Nat → Value} {row : Option Nat} (h : w.rowIs b t n f) (hg : w.grownBy w' row) (hne : some b ≠ row) : w'.rowIs b t n f :=
  h.of_block (hg.block b h.lt hne)

/-- An own row, made full: its content. -/
theorem row_made {w : World} {base : Nat} {e : TypeId} {g n : Nat} {z : Value} (h : w.ownsRow base e 1 (.slice (some ⟨g, 0, none⟩) n n) n (madeCells #[z] (n * 1)).toList) : w.rowIs g e n (fun _ => z) := by
  rcases h.2 with ⟨h', _⟩ | ⟨g', cap', cur, h', hb, hg, hnc, hcm, hcs, htake⟩
  · simp at h'
  · simp only [Value.slice.injEq, Option.some.injEq, Addr.mk.injEq, and_true, true_and] at h'
    obtain ⟨rfl, rfl⟩ := h'
    have hcur : cur.toList = (madeCells #[z] (n * 1)).toList := by
      rw [← htake, List.take_of_length_le (by simp [hcs])]
    refine ⟨cur, hg, by simpa using hcs, fun i hi => ?_⟩
    have e1 : cur[i]? = cur.toList[i]? := by simp
    rw [e1, hcur]
    have := World.rowIs_made w z n e
    obtain ⟨c, h1, h2, h3⟩ := this
    have e2 := heap_alloc_new w (.cells (madeCells #[z] n) e)
    rw [e2] at h1
    simp only [Option.some.injEq, Obj.cells.injEq] at h1
    obtain ⟨rfl, _⟩ := h1
    have := h3 i hi
    rw [Nat.mul_one]
    simpa using this

/-- A stack of numbers, top first: as it lies. -/
def memS : List Nat → List Value
  | [] => []
  | x :: B => memS B ++ [.int .i64 (x : Int)]
theorem memS_length : ∀ xs, (memS xs).length = xs.length
  | [] => rfl
  | x :: B => by simp [memS, memS_length B]

/-- The slice s is the call's own stack xs (top first), above base. -/
def OwnS (w : World) (base : Nat) (s : Value) (xs : List Nat) : Prop := w.ownsRow base 3 1 s xs.length (memS xs)

theorem OwnS.top {w : World} {base : Nat} {s : Value} {x : Nat} {B : List Nat} (h : OwnS w base s (x :: B)) :
    ∃ g cap, s = .slice (some ⟨g, 0, none⟩) (B.length + 1) cap ∧ base ≤ g ∧ g < w.heap.size ∧ B.length + 1 ≤ cap ∧ cap ≤ maxLen ∧ w.cell? ⟨g, B.length, none⟩ = some (.int .i64 (x : Int)) ∧ w.frozen? ⟨g, B.length, none⟩ = false ∧
      OwnS w base (.slice (some ⟨g, 0, none⟩) B.length cap) B := by
  unfold OwnS at *
  have h0 := h
  rcases h.2 with ⟨h', h2⟩ | ⟨g', cap', cur, h', hb, hg, hnc, hcm, hcs, htake⟩
  · simp at h2
  · subst h'
    refine ⟨g', cap', by simp, hb, (Array.getElem?_eq_some_iff.1 hg).1, by simpa using hnc, hcm, ?_, ?_, ?_⟩
    · have := h0.cellAt B.length (by simp)
      rw [this]
      simp [memS, memS_length]
    · exact h0.frozenAt _
    · simp only [memS, List.length_cons] at h0
      exact ownsRow_pop (by simp [memS_length]) h0

theorem OwnS.kept {w w' : World} {base : Nat} {s : Value} {xs : List Nat} {row : Option Nat} (h : OwnS w base s xs) (hg : w.grownBy w' row) (hne : ∀ k, row = some k → s.ownBlock ≠ some k) : OwnS w' base s xs := by
  refine World.ownsRow.kept h hg ?_
  cases hr : s.ownBlock with
  | none => exact .inl rfl
  | some k => exact .inr fun e => hne k e.symm hr

/-- A path of frames, top first: as it lies. -/
def memP : List Tf → List Value
  | [] => []
  | f :: B => memP B ++ [.int .i64 (f.v : Int), .int .i64 (f.i : Int)]
theorem memP_length : ∀ xs, (memP xs).length = xs.length * 2
  | [] => rfl
  | x :: B => by simp [memP, memP_length B]; omega

def OwnP (w : World) (base : Nat) (s : Value) (xs : List Tf) : Prop := w.ownsRow base 65 2 s xs.length (memP xs)

theorem OwnP.top {w : World} {base : Nat} {s : Value} {x : Tf} {B : List Tf} (h : OwnP w base s (x :: B)) :
    ∃ g cap, s = .slice (some ⟨g, 0, none⟩) (B.length + 1) cap ∧ base ≤ g ∧ g < w.heap.size ∧ B.length + 1 ≤ cap ∧ cap ≤ maxLen ∧ w.cell? ⟨g, B.length * 2, none⟩ = some (.int .i64 (x.v : Int)) ∧ w.cell? ⟨g, B.length * 2 + 1, none⟩ = some (.int .i64 (x.i : Int)) ∧ w.frozen? ⟨g, B.length * 2 + 1, none⟩ = false ∧
      (∃ cur, w.heap[g]? = some (.cells cur 65 (0, 0))) ∧
      (∀ y, OwnP (w.setCell ⟨g, B.length * 2 + 1, none⟩ (.int .i64 (y : Nat))) base (.slice (some ⟨g, 0, none⟩) (B.length + 1) cap) (⟨x.v, y⟩ :: B)) ∧
      OwnP w base (.slice (some ⟨g, 0, none⟩) B.length cap) B := by
  unfold OwnP at *
  have h0 := h
  rcases h.2 with ⟨h', h2⟩ | ⟨g', cap', cur, h', hb, hg, hnc, hcm, hcs, htake⟩
  · simp at h2
  · subst h'
    refine ⟨g', cap', by simp, hb, (Array.getElem?_eq_some_iff.1 hg).1, by simpa using hnc, hcm, ?_, ?_, ?_, ⟨cur, hg⟩, fun y => ?_, ?_⟩
    · have := h0.cellAt (B.length * 2) (by simp)
      rw [this]
      simp [memP, memP_length]
    · have := h0.cellAt (B.length * 2 + 1) (by simp; omega)
      rw [this]
      simp [memP, memP_length]
    · exact h0.frozenAt _
    · have := h0.stored (B.length * 2 + 1) (.int .i64 (y : Nat))
      have e : (memP (x :: B)).set (B.length * 2 + 1) (.int .i64 (y : Nat)) = memP (⟨x.v, y⟩ :: B) := by
        simp [memP, List.set_append_right, memP_length]
      rw [e] at this
      simpa using this.1
    · simp only [memP, List.length_cons] at h0
      exact ownsRow_pop (by simp [memP_length]) h0

theorem OwnP.kept {w w' : World} {base : Nat} {s : Value} {xs : List Tf} {row : Option Nat} (h : OwnP w base s xs) (hg : w.grownBy w' row) (hne : ∀ k, row = some k → s.ownBlock ≠ some k) : OwnP w' base s xs := by
  refine World.ownsRow.kept h hg ?_
  cases hr : s.ownBlock with
  | none => exact .inl rfl
  | some k => exact .inr fun e => hne k e.symm hr

/-- A stack and a path never share a block. -/
theorem own_apart {w : World} {base : Nat} {s p : Value} {xs : List Nat} {ps : List Tf} (h1 : OwnS w base s xs) (h2 : OwnP w base p ps) : ∀ k, s.ownBlock = some k → p.ownBlock ≠ some k := by
  intro k e1 e2
  rcases h1.2 with ⟨h', _⟩ | ⟨g', cap', cur, h', hb, hg, _⟩
  · subst h'; simp [Value.ownBlock] at e1
  · subst h'
    simp only [Value.ownBlock, Option.some.injEq] at e1
    subst e1
    rcases h2.2 with ⟨h', _⟩ | ⟨g2, cap2, cur2, h', hb2, hg2, _⟩
    · subst h'; simp [Value.ownBlock] at e2
    · subst h'
      simp only [Value.ownBlock, Option.some.injEq] at e2
      subst e2
      rw [hg] at hg2
      simp at hg2

theorem own_ge {w : World} {base : Nat} {s : Value} {xs : List Nat} (h : OwnS w base s xs) : ∀ k, s.ownBlock = some k → base ≤ k := fun k e => (World.ownsRow.lt h k e).1
theorem ownP_ge {w : World} {base : Nat} {s : Value} {xs : List Tf} (h : OwnP w base s xs) : ∀ k, s.ownBlock = some k → base ≤ k := fun k e => (World.ownsRow.lt h k e).1

/-- The numbers xs lie at ao. -/
def IntsOf (w : World) (ao : Option Addr) (xs : List Int) : Prop := xs = [] ∨ ∃ b off, ao = some ⟨b, off, none⟩ ∧ ∀ j x, xs[j]? = some x → w.cell? ⟨b, off + j, none⟩ = some (.int .i64 x)

theorem IntsOf.below {w w' : World} {N : Nat} {ao : Option Addr} {xs : List Int} (h : IntsOf w ao xs) (hb : Below w.heap.size w w') : IntsOf w' ao xs := by
  rcases h with h | ⟨b, off, h1, h2⟩
  · exact .inl h
  · exact .inr ⟨b, off, h1, fun j x hx => (hb.cell (p := ⟨b, off + j, none⟩) (lt_of_cell (h2 j x hx))).trans (h2 j x hx)⟩

/-- The rows of numbers lie from ⟨b, off⟩ on. -/
def RowsAt (w : World) (b off : Nat) (rows : List (List Int)) : Prop := ∀ i r, rows[i]? = some r → ∃ ao c, w.cell? ⟨b, off + i, none⟩ = some (.slice ao r.length c) ∧ IntsOf w ao r
def RowsOf (w : World) (ao : Option Addr) (rows : List (List Int)) : Prop := rows = [] ∨ ∃ b off, ao = some ⟨b, off, none⟩ ∧ RowsAt w b off rows

theorem RowsAt.below {w w' : World} {b off : Nat} {rows : List (List Int)} (h : RowsAt w b off rows) (hb : Below w.heap.size w w') : RowsAt w' b off rows := by
  intro i r hr
  obtain ⟨ao, c, h1, h2⟩ := h i r hr
  exact ⟨ao, c, (hb.cell (p := ⟨b, off + i, none⟩) (lt_of_cell h1)).trans h1, h2.below (N := 0) hb⟩
theorem RowsOf.below {w w' : World} {ao : Option Addr} {rows : List (List Int)} (h : RowsOf w ao rows) (hb : Below w.heap.size w w') : RowsOf w' ao rows := by
  rcases h with h | ⟨b, off, h1, h2⟩
  · exact .inl h
  · exact .inr ⟨b, off, h1, h2.below hb⟩

/-- The graph that the rows say. -/
def gOf (rows : List (List Int)) (v : Nat) : List Nat := (rows[v]?.getD []).map Int.toNat
/-- Every number is a node. -/
def InDom (rows : List (List Int)) : Prop := ∀ r, r ∈ rows → ∀ x, x ∈ r → 0 ≤ x ∧ x < rows.length

theorem gOf_row {rows : List (List Int)} {v : Nat} {r : List Int} (h : rows[v]? = some r) : gOf rows v = r.map Int.toNat := by simp [gOf, h]
theorem gOf_len {rows : List (List Int)} {v : Nat} {r : List Int} (h : rows[v]? = some r) : (gOf rows v).length = r.length := by simp [gOf, h]
theorem gOf_none {rows : List (List Int)} {v : Nat} (h : rows.length ≤ v) : gOf rows v = [] := by simp [gOf, List.getElem?_eq_none h]
theorem gOf_lt {rows : List (List Int)} (hd : InDom rows) {v w : Nat} (h : w ∈ gOf rows v) : w < rows.length := by
  unfold gOf at h
  rw [List.mem_map] at h
  obtain ⟨x, h1, h2⟩ := h
  cases hr : rows[v]? with
  | none => simp [hr] at h1
  | some r =>
    simp [hr] at h1
    have := hd r (List.mem_iff_getElem?.2 ⟨v, hr⟩) x h1
    omega

/-- A row's cell, read: the slice, and the numbers in it. -/
theorem row_read {w : World} {b off : Nat} {rows : List (List Int)} (h : RowsAt w b off rows) (hd : InDom rows) {v : Nat} (hv : v < rows.length) :
    ∃ ao c, w.cell? ⟨b, off + v, none⟩ = some (.slice ao (gOf rows v).length c) ∧ (∀ (i x : Nat), (gOf rows v)[i]? = some x → ∃ b' off', ao = some ⟨b', off', none⟩ ∧ w.cell? ⟨b', off' + i, none⟩ = some (.int .i64 (x : Int))) := by
  obtain ⟨r, hr⟩ : ∃ r, rows[v]? = some r := ⟨_, List.getElem?_eq_getElem hv⟩
  obtain ⟨ao, c, h1, h2⟩ := h v r hr
  refine ⟨ao, c, by rw [gOf_len hr]; exact h1, fun i x hx => ?_⟩
  rw [gOf_row hr, List.getElem?_map] at hx
  cases hi : r[i]? with
  | none => simp [hi] at hx
  | some y =>
    simp [hi] at hx
    have hy := hd r (List.mem_iff_getElem?.2 ⟨v, hr⟩) y (List.mem_iff_getElem?.2 ⟨i, hi⟩)
    rcases h2 with h2 | ⟨b', off', h3, h4⟩
    · subst h2; simp at hi
    · refine ⟨b', off', h3, ?_⟩
      rw [h4 i y hi, ← hx, Int.toNat_of_nonneg hy.1]

end Go.Proofs.Qxb6602302a

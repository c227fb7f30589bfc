/-
  What the walk of zzKosaraju keeps in memory behind its first search.
-/
import Derived.Test.Qxb6602302aKosM
namespace Go.Proofs.Qxb6602302a
open Go.RowKit
set_option linter.unusedVariables false
set_option linter.unusedSimpArgs false

theorem cell_new (w : World) (u : Value) (t : TypeId) (b : Nat) (hb : b = w.heap.size) : (w.alloc (.cells #[u] t)).cell? ⟨b, 0, none⟩ = some u := by
  subst hb
  simp

/-- The counts: shifted by one. -/
def cntOf (es : List (Nat × Nat)) : Nat → Nat
  | 0 => 0
  | i + 1 => (srcs es i).length

theorem cntOf_nil (i : Nat) : cntOf [] i = 0 := by cases i <;> rfl
theorem cntOf_snoc (es : List (Nat × Nat)) (v x i : Nat) : cntOf (es ++ [(v, x)]) i = if i = x + 1 then cntOf es i + 1 else cntOf es i := by
  cases i with
  | zero => simp [cntOf]
  | succ i =>
    simp only [cntOf]
    by_cases e : i = x
    · subst e; rw [srcs_snoc]; simp
    · rw [srcs_other _ e, if_neg (by omega)]

/-- A row of numbers in block ST, the order in block O. -/
structure Row1 (w : World) (O ST m n : Nat) (order : List Nat) (f : Nat → Nat) (wr : World) : Prop where
  r : wr.rowIs ST 3 m (fun i => .int .i64 (f i : Int))
  o : OrdF wr O n order
  b : Below w.heap.size w wr
  z : ST < wr.heap.size

section
variable {w wr : World} {O ST m n : Nat} {order : List Nat} {f : Nat → Nat}

theorem Row1.start {w1 w2 : World} (hO : OrdF w1 O n order) (hb : Below w.heap.size w w1) (z2 : w2.heap.size = w1.heap.size + 1) (r2 : w2.rowIs w1.heap.size 3 m (fun _ => .int .i64 0)) (g2 : w1.grownBy w2 none) : Row1 w O w1.heap.size m n order (fun _ => 0) w2 :=
  ⟨r2, hO.kept g2 (by simp), hb.grown g2 hb.size (by simp), by omega⟩

theorem Row1.congr {g : Nat → Nat} (h : Row1 w O ST m n order f wr) (e : ∀ i, i < m → f i = g i) : Row1 w O ST m n order g wr :=
  ⟨h.r.congr fun i hi => by rw [e i hi], h.o, h.b, h.z⟩

theorem Row1.set (h : Row1 w O ST m n order f wr) (hne : O ≠ ST) (hN : w.heap.size ≤ ST) (k v : Nat) {x : Int} (hx : x = (v : Int)) : Row1 w O ST m n order (upd f k v) (wr.setCell ⟨ST, k, none⟩ (.int .i64 x)) := by
  subst hx
  refine ⟨(h.r.set k _).congr fun i hi => ?_, h.o.kept (grown_set _ _ _) (by simpa using hne), h.b.setCell hN _, by simpa using h.z⟩
  unfold upd; by_cases e : i = k <;> simp [e]

theorem Row1.kept {w' : World} {row : Option Nat} (h : Row1 w O ST m n order f wr) (hg : wr.grownBy w' row) (h1 : some O ≠ row) (h2 : some ST ≠ row) (hN : ∀ k, row = some k → w.heap.size ≤ k) : Row1 w O ST m n order f w' :=
  ⟨rowIs_kept h.r hg h2, h.o.kept hg h1, h.b.grown hg h.b.size hN, Nat.lt_of_lt_of_le h.z hg.size⟩

theorem Row1.drew (h : Row1 w O ST m n order f wr) : Row1 w O ST m n order f wr.drew := ⟨h.r, h.o, h.b.drew, h.z⟩
end

theorem pre_len_le (g : Nat → List Nat) {v j n x : Nat} (hv : v < n) (h : (g v)[j]? = some x) : (pre g v j).length + 1 ≤ (pre g n 0).length := by
  obtain ⟨rest, e⟩ := pre_prefix g hv h
  rw [e]
  simp
theorem srcs_len (es : List (Nat × Nat)) (x : Nat) : (srcs es x).length ≤ es.length := by
  unfold srcs
  rw [List.length_map]
  exact List.length_filter_le _ _
theorem st_le {n : Nat} (es : List (Nat × Nat)) (h : ∀ e, e ∈ es → e.2 < n) {i : Nat} (hi : i ≤ n) : st es i ≤ es.length := by
  have := st_mono es hi
  rw [st_total es h] at this
  exact this

/-- Between two running sums. -/
def pfx (all : List (Nat × Nat)) (v i : Nat) : Nat := if i ≤ v then st all i else cntOf all i
theorem pfx_zero (all : List (Nat × Nat)) (i : Nat) : cntOf all i = pfx all 0 i := by
  unfold pfx
  by_cases e : i ≤ 0
  · obtain rfl : i = 0 := by omega
    rfl
  · rw [if_neg e]
theorem pfx_step (all : List (Nat × Nat)) (v i : Nat) : upd (pfx all v) (v + 1) (st all (v + 1)) i = pfx all (v + 1) i := by
  unfold upd pfx
  by_cases e : i = v + 1
  · subst e; simp
  · rw [if_neg e]
    by_cases h : i ≤ v
    · rw [if_pos h, if_pos (by omega)]
    · rw [if_neg h, if_neg (by omega)]
theorem pfx_at (all : List (Nat × Nat)) (v : Nat) : pfx all v (v + 1) + pfx all v v = st all (v + 1) := by
  unfold pfx
  rw [if_neg (by omega), if_pos (by omega)]
  simp only [cntOf, st]
  omega
theorem pfx_end (all : List (Nat × Nat)) (n i : Nat) (h : i < n + 1) : pfx all n i = st all i := by
  unfold pfx
  rw [if_pos (by omega)]

structure BlkK (N O ST PR FI : Nat) : Prop where
  a : N < O
  b : O < ST
  c : ST < PR
  d : PR < FI

/-- Three rows of numbers: where the predecessors begin, the predecessors, where the next goes. -/
structure Row3 (w : World) (O ST PR FI n T : Nat) (order : List Nat) (f p q : Nat → Nat) (wr : World) : Prop where
  r1 : Row1 w O ST (n + 1) n order f wr
  p : wr.rowIs PR 3 T (fun i => .int .i64 (p i : Int))
  q : wr.rowIs FI 3 n (fun i => .int .i64 (q i : Int))
  z : FI < wr.heap.size

section
variable {w wr : World} {O ST PR FI n T : Nat} {order : List Nat} {f p q : Nat → Nat}

theorem Row3.start {w1 w2 w3 : World} (h : Row1 w O ST (n + 1) n order f w1) (z2 : w2.heap.size = w1.heap.size + 1) (r2 : w2.rowIs w1.heap.size 3 T (fun _ => .int .i64 0)) (g2 : w1.grownBy w2 none)
    (z3 : w3.heap.size = w2.heap.size + 1) (r3 : w3.rowIs w2.heap.size 3 n (fun _ => .int .i64 0)) (g3 : w2.grownBy w3 none) : Row3 w O ST w1.heap.size w2.heap.size n T order f (fun _ => 0) (fun _ => 0) w3 :=
  ⟨(h.kept g2 (by simp) (by simp) (by simp)).kept g3 (by simp) (by simp) (by simp), rowIs_kept r2 g3 (by simp), r3, by omega⟩

theorem Row3.setQ (h : Row3 w O ST PR FI n T order f p q wr) (hB : BlkK w.heap.size O ST PR FI) (k v : Nat) {x : Int} (hx : x = (v : Int)) : Row3 w O ST PR FI n T order f p (upd q k v) (wr.setCell ⟨FI, k, none⟩ (.int .i64 x)) := by
  subst hx
  obtain ⟨ha, hb, hc, hd⟩ := hB
  refine ⟨h.r1.kept (grown_set _ _ _) (by simp; omega) (by simp; omega) (by simp; omega), h.p.setOther (by simp; omega) _, (h.q.set k _).congr fun i hi => ?_, by simpa using h.z⟩
  unfold upd; by_cases e : i = k <;> simp [e]
theorem Row3.setP (h : Row3 w O ST PR FI n T order f p q wr) (hB : BlkK w.heap.size O ST PR FI) (k v : Nat) {x : Int} (hx : x = (v : Int)) : Row3 w O ST PR FI n T order f (upd p k v) q (wr.setCell ⟨PR, k, none⟩ (.int .i64 x)) := by
  subst hx
  obtain ⟨ha, hb, hc, hd⟩ := hB
  refine ⟨h.r1.kept (grown_set _ _ _) (by simp; omega) (by simp; omega) (by simp; omega), (h.p.set k _).congr fun i hi => ?_, h.q.setOther (by simp; omega) _, by simpa using h.z⟩
  unfold upd; by_cases e : i = k <;> simp [e]
theorem Row3.congrQ {q' : Nat → Nat} (h : Row3 w O ST PR FI n T order f p q wr) (e : ∀ i, i < n → q i = q' i) : Row3 w O ST PR FI n T order f p q' wr :=
  ⟨h.r1, h.p, h.q.congr fun i hi => by rw [e i hi], h.z⟩
theorem Row3.kept {w' : World} {row : Option Nat} (h : Row3 w O ST PR FI n T order f p q wr) (hB : BlkK w.heap.size O ST PR FI) (hg : wr.grownBy w' row) (hrow : ∀ k, row = some k → FI < k) : Row3 w O ST PR FI n T order f p q w' := by
  obtain ⟨ha, hb, hc, hd⟩ := hB
  have hne : ∀ k, k ≤ FI → some k ≠ row := fun k hk e => by have := hrow k e.symm; omega
  exact ⟨h.r1.kept hg (hne _ (by omega)) (hne _ (by omega)) (fun k e => by have := hrow k e; omega), rowIs_kept h.p hg (hne _ (by omega)), rowIs_kept h.q hg (hne _ (by omega)), Nat.lt_of_lt_of_le h.z hg.size⟩
end

/-- The edges es are laid. -/
def Laid (w : World) (O ST PR FI n T : Nat) (order : List Nat) (all es : List (Nat × Nat)) (wr : World) : Prop :=
  ∃ pred, Row3 w O ST PR FI n T order (st all) pred (fun i => st all i + (srcs es i).length) wr ∧ Filled all es pred

theorem pre_tgt {rows : List (List Int)} (hd : InDom rows) : ∀ e, e ∈ pre (gOf rows) rows.length 0 → e.2 < rows.length := by
  rintro ⟨u, x⟩ h
  exact gOf_lt hd (pre_mem.1 h).2
end Go.Proofs.Qxb6602302a

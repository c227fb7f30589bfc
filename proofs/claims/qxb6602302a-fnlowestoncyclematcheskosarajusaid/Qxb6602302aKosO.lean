/-
  What the walk of zzKosaraju keeps in memory in its second search.
-/
import Derived.Test.Qxb6602302aKosN
namespace Go.Proofs.Qxb6602302a
open Go.RowKit
set_option linter.unusedVariables false
set_option linter.unusedSimpArgs false

structure BlkC (N O ST PR FI CO : Nat) : Prop where
  k : BlkK N O ST PR FI
  c : FI < CO

/-- The rows of the turned edges, and the components. -/
structure CM (w : World) (O ST PR FI CO n T : Nat) (order : List Nat) (f p : Nat → Nat) (comp : Nat → Int) (wr : World) : Prop where
  r3 : ∃ q, Row3 w O ST PR FI n T order f p q wr
  c : wr.rowIs CO 3 n (fun i => .int .i64 (comp i))
  z : CO < wr.heap.size

section
variable {w wr : World} {O ST PR FI CO WK n T : Nat} {order : List Nat} {f p : Nat → Nat} {comp : Nat → Int} {work : List Nat}

theorem CM.start {q : Nat → Nat} {w1 w2 : World} (h : Row3 w O ST PR FI n T order f p q w1) (hB : BlkK w.heap.size O ST PR FI) (z2 : w2.heap.size = w1.heap.size + 1) (r2 : w2.rowIs w1.heap.size 3 n (fun _ => .int .i64 0)) (g2 : w1.grownBy w2 none) :
    CM w O ST PR FI w1.heap.size n T order f p (fun _ => 0) w2 := ⟨⟨q, h.kept hB g2 (by simp)⟩, r2, by omega⟩

theorem CM.set (h : CM w O ST PR FI CO n T order f p comp wr) (hB : BlkC w.heap.size O ST PR FI CO) (k : Nat) (x : Int) : CM w O ST PR FI CO n T order f p (upd comp k x) (wr.setCell ⟨CO, k, none⟩ (.int .i64 x)) := by
  obtain ⟨q, hq⟩ := h.r3
  refine ⟨⟨q, hq.kept hB.k (grown_set _ _ _) (by have := hB.c; simp; omega)⟩, (h.c.set k _).congr fun i hi => ?_, by simpa using h.z⟩
  unfold upd; by_cases e : i = k <;> simp [e]
theorem CM.congr {comp' : Nat → Int} (h : CM w O ST PR FI CO n T order f p comp wr) (e : ∀ i, i < n → comp i = comp' i) : CM w O ST PR FI CO n T order f p comp' wr := ⟨h.r3, h.c.congr fun i hi => by rw [e i hi], h.z⟩
theorem CM.kept {w' : World} {row : Option Nat} (h : CM w O ST PR FI CO n T order f p comp wr) (hB : BlkC w.heap.size O ST PR FI CO) (hg : wr.grownBy w' row) (hrow : ∀ k, row = some k → CO < k) : CM w O ST PR FI CO n T order f p comp w' := by
  obtain ⟨q, hq⟩ := h.r3
  exact ⟨⟨q, hq.kept hB.k hg (fun k e => by have := hrow k e; have := hB.c; omega)⟩, rowIs_kept h.c hg (fun e => by have := hrow CO e.symm; omega), Nat.lt_of_lt_of_le h.z hg.size⟩
theorem CM.below (h : CM w O ST PR FI CO n T order f p comp wr) : Below w.heap.size w wr := by obtain ⟨q, hq⟩ := h.r3; exact hq.r1.b
theorem CM.cellST (h : CM w O ST PR FI CO n T order f p comp wr) {i : Nat} (hi : i < n + 1) : wr.cell? ⟨ST, i, none⟩ = some (.int .i64 (f i : Int)) := by obtain ⟨q, hq⟩ := h.r3; exact hq.r1.r.cell hi
theorem CM.cellPR (h : CM w O ST PR FI CO n T order f p comp wr) {i : Nat} (hi : i < T) : wr.cell? ⟨PR, i, none⟩ = some (.int .i64 (p i : Int)) := by obtain ⟨q, hq⟩ := h.r3; exact hq.p.cell hi
theorem CM.cellO (h : CM w O ST PR FI CO n T order f p comp wr) {i r : Nat} (hi : order[i]? = some r) : wr.cell? ⟨O, i, none⟩ = some (.int .i64 (r : Int)) := by obtain ⟨q, hq⟩ := h.r3; exact hq.r1.o.cell hi

/-- .. and the work list. -/
structure WM (w : World) (O ST PR FI CO WK n T : Nat) (order : List Nat) (f p : Nat → Nat) (comp : Nat → Int) (work : List Nat) (wr : World) : Prop where
  c : CM w O ST PR FI CO n T order f p comp wr
  s : StkF wr WK n work

theorem WM.start {w1 w2 : World} (h : CM w O ST PR FI CO n T order f p comp w1) (hB : BlkC w.heap.size O ST PR FI CO) (r2 : w2.rowIs w1.heap.size 3 n (fun _ => .int .i64 0)) (g2 : w1.grownBy w2 none) : WM w O ST PR FI CO w1.heap.size n T order f p comp [] w2 :=
  ⟨h.kept hB g2 (by simp), StkF.nil r2⟩
theorem WM.setC (h : WM w O ST PR FI CO WK n T order f p comp work wr) (hB : BlkC w.heap.size O ST PR FI CO) (hW : CO < WK) (k : Nat) (x : Int) : WM w O ST PR FI CO WK n T order f p (upd comp k x) work (wr.setCell ⟨CO, k, none⟩ (.int .i64 x)) :=
  ⟨h.c.set hB k x, h.s.kept (grown_set _ _ _) (by simp; omega)⟩
theorem WM.pop {v : Nat} (h : WM w O ST PR FI CO WK n T order f p comp (v :: work) wr) : WM w O ST PR FI CO WK n T order f p comp work wr := ⟨h.c, h.s.pop⟩
theorem WM.clear (h : WM w O ST PR FI CO WK n T order f p comp work wr) : WM w O ST PR FI CO WK n T order f p comp [] wr := by
  obtain ⟨_, g, h2, _⟩ := h.s
  exact ⟨h.c, StkF.nil h2⟩
theorem WM.congr {comp' : Nat → Int} (h : WM w O ST PR FI CO WK n T order f p comp work wr) (e : comp = comp') : WM w O ST PR FI CO WK n T order f p comp' work wr := by subst e; exact h
theorem WM.push {w2 : World} {u : Nat} {f1 : Nat → Value} (h : WM w O ST PR FI CO WK n T order f p comp work wr) (hB : BlkC w.heap.size O ST PR FI CO) (hW : CO < WK) (hl : work.length < n) (g2 : (wr.alloc (.cells #[.int .i64 (u : Int)] 3)).grownBy w2 (some WK))
    (r2 : w2.rowIs WK 3 n (fun j => if j = work.length then .int .i64 (u : Int) else f1 j)) (hf1 : ∀ j v, (memS work)[j]? = some v → f1 j = v) : WM w O ST PR FI CO WK n T order f p comp (u :: work) w2 :=
  ⟨(h.c.kept hB (grown_alloc _ _ none) (by simp)).kept hB g2 (by simp; omega), StkF.push hl hf1 r2⟩
end

theorem compOf_one (comp : Nat → Int) (k r : Nat) : upd comp r (k : Int) = compOf comp k [r] := by
  funext x
  unfold upd compOf
  by_cases e : x = r <;> simp [e]
theorem compOf_cons (comp : Nat → Int) (k u : Nat) (seen : List Nat) : upd (compOf comp k seen) u (k : Int) = compOf comp k (u :: seen) := by
  funext x
  unfold upd compOf
  by_cases e : x = u <;> simp [e]

theorem K3mid.mono {g : Nat → List Nat} {n : Nat} {order : List Nat} {i r : Nat} {comp : Nat → Int} {k : Nat} {seen work : List Nat} {v : Nat} {U U' : Nat → Prop} (h : K3mid g n order i r comp k seen work v U) (hU : ∀ u, U' u → U u) :
    K3mid g n order i r comp k seen work v U' := ⟨h.nd, h.new, h.lt, h.root, h.back, h.wsub, h.wlen, h.cur, h.full, fun u hu => h.part u (hU u hu)⟩

/-- Looked at so far. -/
def Looked (all : List (Nat × Nat)) (pred : Nat → Nat) (v j u : Nat) : Prop := ∃ j', st all v ≤ j' ∧ j' < j ∧ pred j' = u
theorem looked_step {all : List (Nat × Nat)} {pred : Nat → Nat} {v j u : Nat} (h : Looked all pred v (j + 1) u) : Looked all pred v j u ∨ u = pred j := by
  obtain ⟨j', h1, h2, h3⟩ := h
  by_cases e : j' = j
  · subst e; exact .inr h3.symm
  · exact .inl ⟨j', h1, by omega, h3⟩
theorem looked_none {all : List (Nat × Nat)} {pred : Nat → Nat} {v u : Nat} : ¬ Looked all pred v (st all v) u := by
  rintro ⟨j', h1, h2, h3⟩; omega

def P7out (rows : List (List Int)) (w : World) (O ST PR FI CO WK T : Nat) (order : List Nat) (pred : Nat → Nat) (gk : Nat) (s28 s29 s30 : Value) (wr : World) : Prop :=
  ∃ i comp k work, gk = i ∧ i ≤ rows.length ∧ s30 = .int .i64 ((i : Int) - 1) ∧ s28 = .int .i64 ((k : Nat) : Int) ∧ s29 = .slice (some ⟨WK, 0, none⟩) (work : List Nat).length rows.length ∧ K3 (gOf rows) rows.length order i comp k ∧
    WM w O ST PR FI CO WK rows.length T order (st (pre (gOf rows) rows.length 0)) pred comp work wr
def P7in (rows : List (List Int)) (w : World) (O ST PR FI CO WK T : Nat) (order : List Nat) (pred : Nat → Nat) (i r : Nat) (comp : Nat → Int) (k gk : Nat) (s29 : Value) (wr : World) : Prop :=
  ∃ seen work, gk = 2 * (rows.length - seen.length) + work.length ∧ K3in (gOf rows) rows.length order i r comp k seen work ∧ s29 = .slice (some ⟨WK, 0, none⟩) work.length rows.length ∧
    WM w O ST PR FI CO WK rows.length T order (st (pre (gOf rows) rows.length 0)) pred (compOf comp k seen) work wr
def P7pred (rows : List (List Int)) (w : World) (O ST PR FI CO WK T : Nat) (order : List Nat) (pred : Nat → Nat) (i r : Nat) (comp : Nat → Int) (k v G0 gk : Nat) (s29 s33 : Value) (wr : World) : Prop :=
  ∃ j seen work, gk = st (pre (gOf rows) rows.length 0) (v + 1) - j ∧ st (pre (gOf rows) rows.length 0) v ≤ j ∧ j ≤ st (pre (gOf rows) rows.length 0) (v + 1) ∧ s33 = .int .i64 ((j : Nat) : Int) ∧ s29 = .slice (some ⟨WK, 0, none⟩) (work : List Nat).length rows.length ∧
    K3mid (gOf rows) rows.length order i r comp k seen work v (Looked (pre (gOf rows) rows.length 0) pred v j) ∧ 2 * (rows.length - seen.length) + work.length ≤ G0 ∧
    WM w O ST PR FI CO WK rows.length T order (st (pre (gOf rows) rows.length 0)) pred (compOf comp k seen) work wr
end Go.Proofs.Qxb6602302a

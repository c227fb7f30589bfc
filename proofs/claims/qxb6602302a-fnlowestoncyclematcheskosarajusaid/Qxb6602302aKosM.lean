/-
  What the walk of zzKosaraju keeps in memory.
-/
import Derived.Test.Qxb6602302aMem2
import Derived.Test.Qxb6602302aKosS
import Derived.Test.Qxb6602302aCsr
namespace Go.Proofs.Qxb6602302a
open Go.RowKit
set_option linter.unusedVariables false
set_option linter.unusedSimpArgs false

/-- The row of block g bears the list xs at its head, first to last. -/
def OrdF (w : World) (g n : Nat) (xs : List Nat) : Prop := xs.length ≤ n ∧ ∃ f, w.rowIs g 3 n f ∧ ∀ (j x : Nat), xs[j]? = some x → f j = .int .i64 (x : Int)

theorem OrdF.kept {w w' : World} {g n : Nat} {xs : List Nat} {row : Option Nat} (h : OrdF w g n xs) (hg : w.grownBy w' row) (hne : some g ≠ row) : OrdF w' g n xs := by
  obtain ⟨h1, f, h2, h3⟩ := h
  exact ⟨h1, f, rowIs_kept h2 hg hne, h3⟩
theorem OrdF.nil {w : World} {g n : Nat} {f : Nat → Value} (h : w.rowIs g 3 n f) : OrdF w g n [] := ⟨Nat.zero_le _, f, h, by simp⟩
theorem OrdF.cell {w : World} {g n j x : Nat} {xs : List Nat} (h : OrdF w g n xs) (hx : xs[j]? = some x) : w.cell? ⟨g, j, none⟩ = some (.int .i64 (x : Int)) := by
  obtain ⟨h1, f, h2, h3⟩ := h
  have hlt : j < xs.length := (List.getElem?_eq_some_iff.1 hx).1
  rw [h2.cell (by omega), h3 j x hx]
theorem OrdF.push {w' : World} {g n : Nat} {f : Nat → Value} {x : Nat} {xs : List Nat} (hB : xs.length < n) (h : ∀ (j y : Nat), xs[j]? = some y → f j = .int .i64 (y : Int)) (hr : w'.rowIs g 3 n (fun j => if j = xs.length then .int .i64 (x : Int) else f j)) : OrdF w' g n (xs ++ [x]) := by
  refine ⟨by simp; omega, _, hr, fun j y hy => ?_⟩
  by_cases hj : j = xs.length
  · subst hj
    simp at hy ⊢
    omega
  · rw [if_neg hj]
    refine h j y ?_
    have hlt : j < (xs ++ [x]).length := (List.getElem?_eq_some_iff.1 hy).1
    simp at hlt
    rwa [List.getElem?_append_left (by omega)] at hy

/-- The five numbers at the start. -/
structure Blk4 (N V O S X B : Nat) : Prop where
  a : N ≤ V
  b : V < O
  c : O < S
  d : S < X
  e : X < B

/-- The first search, in memory. -/
structure KM (w0 : World) (V O S X B n : Nat) (w : World) (order : List Nat) (st : List Fr) (vis : Nat → Bool) : Prop where
  v : w.rowIs V 4 n (fun i => .bool (vis i))
  o : OrdF w O n order
  s : StkF w S n (st.map (·.v))
  x : StkF w X n (st.map (·.i))
  b : Below w0.heap.size w0 w
  z : B ≤ w.heap.size

section
variable {w0 : World} {V O S X B n : Nat} {w : World} {order : List Nat} {st : List Fr} {vis : Nat → Bool}

theorem KM.start {w w1 w2 w3 w4 : World} {n : Nat} (z1 : w1.heap.size = w.heap.size + 1) (z2 : w2.heap.size = w1.heap.size + 1) (z3 : w3.heap.size = w2.heap.size + 1) (z4 : w4.heap.size = w3.heap.size + 1)
    (r1 : w1.rowIs w.heap.size 4 n (fun _ => .bool false)) (r2 : w2.rowIs w1.heap.size 3 n (fun _ => .int .i64 0)) (r3 : w3.rowIs w2.heap.size 3 n (fun _ => .int .i64 0)) (r4 : w4.rowIs w3.heap.size 3 n (fun _ => .int .i64 0))
    (g1 : w.grownBy w1 none) (g2 : w1.grownBy w2 none) (g3 : w2.grownBy w3 none) (g4 : w3.grownBy w4 none) : KM w w.heap.size w1.heap.size w2.heap.size w3.heap.size w4.heap.size n w4 [] [] (fun _ => false) where
  v := rowIs_kept (rowIs_kept (rowIs_kept r1 g2 (by simp)) g3 (by simp)) g4 (by simp)
  o := OrdF.nil (rowIs_kept (rowIs_kept r2 g3 (by simp)) g4 (by simp))
  s := StkF.nil (rowIs_kept r3 g4 (by simp))
  x := StkF.nil r4
  b := ((((Below.refl _ w).grown g1 (Nat.le_refl _) (by simp)).grown g2 (by omega) (by simp)).grown g3 (by omega) (by simp)).grown g4 (by omega) (by simp)
  z := Nat.le_refl _

/-- 'visited[k] = true; stackNode = append(stackNode, k); stackNext = append(stackNext, 0)', whatever the frames below have become. -/
theorem KM.push {w1 w2 w3 w4 : World} {k gk : Nat} {f1 f2 : Nat → Value} (h : KM w0 V O S X B n w order st vis) (hB : Blk4 w0.heap.size V O S X B) (hl : st.length < n)
    (hw1 : w1 = (w.setCell ⟨V, k, none⟩ (.bool true)).alloc (.cells #[.int .i64 (k : Int)] 3)) (g2 : w1.grownBy w2 (some S)) (r2 : w2.rowIs S 3 n (fun j => if j = st.length then .int .i64 (k : Int) else f1 j)) (hf1 : ∀ j v, (memS (st.map (·.v)))[j]? = some v → f1 j = v)
    (hw3 : w3 = w2.alloc (.cells #[.int .i64 0] 3)) (g4 : w3.grownBy w4 (some X)) (r4 : w4.rowIs X 3 n (fun j => if j = st.length then .int .i64 0 else f2 j)) (hf2 : ∀ j v, (memS (st.map (·.i)))[j]? = some v → f2 j = v) :
    KM w0 V O S X B n w4 order (⟨k, 0, gk⟩ :: st) (fun i => if i = k then true else vis i) := by
  obtain ⟨ha, hb, hc, hd, he⟩ := hB
  have hz := h.z
  have e1 : w.grownBy w1 (some V) := by subst hw1; exact (grown_set _ _ _).trans (grown_alloc _ _ _)
  have e3 : w2.grownBy w3 none := by subst hw3; exact grown_alloc _ _ _
  have rv1 : w1.rowIs V 4 n (fun i => .bool (if i = k then true else vis i)) := by
    subst hw1
    refine ((h.v.set k (.bool true)).congr fun i hi => ?_).alloc _
    by_cases e : i = k <;> simp [e]
  have hS : StkF w2 S n ((⟨k, 0, gk⟩ :: st).map (·.v)) := by
    simp only [List.map_cons]
    exact StkF.push (by simpa using hl) hf1 (by simpa using r2)
  have hX : StkF w4 X n ((⟨k, 0, gk⟩ :: st).map (·.i)) := by
    simp only [List.map_cons]
    exact StkF.push (by simpa using hl) hf2 (by simpa using r4)
  exact ⟨rowIs_kept (rowIs_kept (rowIs_kept rv1 g2 (by simp; omega)) e3 (by simp)) g4 (by simp; omega),
    ((((h.o.kept e1 (by simp; omega)).kept g2 (by simp; omega)).kept e3 (by simp)).kept g4 (by simp; omega)),
    (hS.kept e3 (by simp)).kept g4 (by simp; omega), hX,
    (((h.b.grown e1 (by omega) (by simp; omega)).grown g2 (by have := e1.size; omega) (by simp; omega)).grown e3 (by have := e1.size; have := g2.size; omega) (by simp)).grown g4 (by have := e1.size; have := g2.size; have := e3.size; omega) (by simp; omega),
    by have := e1.size; have := g2.size; have := e3.size; have := g4.size; omega⟩

theorem KM.adv {f : Fr} {P : List Fr} (h : KM w0 V O S X B n w order (f :: P) vis) (hB : Blk4 w0.heap.size V O S X B) : KM w0 V O S X B n (w.setCell ⟨X, P.length, none⟩ (.int .i64 ((f.i : Int) + 1))) order (⟨f.v, f.i + 1, f.k⟩ :: P) vis := by
  obtain ⟨ha, hb, hc, hd, he⟩ := hB
  have hx := h.x
  simp only [List.map_cons] at hx
  have hx2 := hx.set (f.i + 1)
  rw [List.length_map, Int.natCast_add] at hx2
  refine ⟨h.v.setOther (by simp; omega) _, h.o.kept (grown_set _ _ _) (by simp; omega), ?_, by simpa using hx2, h.b.setCell (by simp; omega) _, by simpa using h.z⟩
  have hs := h.s.kept (grown_set w ⟨X, P.length, none⟩ (.int .i64 ((f.i : Int) + 1))) (by simp; omega)
  simpa using hs

theorem KM.finish {w1 w2 : World} {f : Fr} {P : List Fr} {f1 : Nat → Value} (h : KM w0 V O S X B n w order (f :: P) vis) (hB : Blk4 w0.heap.size V O S X B) (hl : order.length < n)
    (hw1 : w1 = w.alloc (.cells #[.int .i64 (f.v : Int)] 3)) (g2 : w1.grownBy w2 (some O)) (r2 : w2.rowIs O 3 n (fun j => if j = order.length then .int .i64 (f.v : Int) else f1 j)) (hf1 : ∀ (j y : Nat), order[j]? = some y → f1 j = .int .i64 (y : Int)) :
    KM w0 V O S X B n w2 (order ++ [f.v]) P vis := by
  obtain ⟨ha, hb, hc, hd, he⟩ := hB
  have hz := h.z
  have e1 : w.grownBy w1 none := by subst hw1; exact grown_alloc _ _ _
  have hs := h.s
  have hx := h.x
  simp only [List.map_cons] at hs hx
  exact ⟨rowIs_kept (rowIs_kept h.v e1 (by simp)) g2 (by simp; omega), OrdF.push hl hf1 r2, (hs.pop.kept e1 (by simp)).kept g2 (by simp; omega), (hx.pop.kept e1 (by simp)).kept g2 (by simp; omega),
    (h.b.grown e1 (by omega) (by simp)).grown g2 (by have := e1.size; omega) (by simp; omega), by have := e1.size; have := g2.size; omega⟩
end
end Go.Proofs.Qxb6602302a

/-
  Memory: make and append within the capacity, as rows say them.
-/
import Derived.Test.Qxb6602302aMem
import Derived.ArgAppend
namespace Go.Proofs.Qxb6602302a
open Go.RowKit
set_option linter.unusedVariables false
set_option linter.unusedSimpArgs false

/-- 'make([]T, l, c)', T of one cell. -/
theorem wpList_mk {P : Program} (w : World) {ops : Array Oper} {rest : List Oper} {o : Oper} {a : Act} {Q : Exit → Act → World → Prop}
    (hg : o.guard = none) (l c : Operand) (t : TypeId) (hop : o.op = Op.makeSlice t l c)
    (e : TypeId) (i : TypeInfo) (z : Value) (h1 : P.underlying t = some (.slice e)) (h2 : P.info? e = some i) (h3 : i.zero = some z) (h4 : i.size = 1) (hz : z.cells = #[z])
    (kl kc : IntKind) (L C : Int) (m n : Nat) (hl : a.eval l = .int kl L) (hc : a.eval c = .int kc C) (hL : L = (m : Int)) (hC : C = (n : Int)) (hmn : m ≤ n) (b2 : i.bytes * n ≤ 281474976710656) (b3 : n ≤ maxLen)
    (hK : ∀ w', w'.heap.size = w.heap.size + 1 → w'.rowIs w.heap.size e n (fun _ => z) → w.grownBy w' none → wpList P ops Q rest (a.put o.dst (.slice (some ⟨w.heap.size, 0, none⟩) m n)) w') :
    wpList P ops Q (o :: rest) a w := by
  refine wpList_plain hg fun K hK' => ?_
  have h63' : (n : Int) ≤ 9223372036854775807 := by
    have h := b3
    simp [maxLen] at h
    omega
  have hb' : (i.bytes : Int) * (n : Int) ≤ 281474976710656 := by
    have h : ((i.bytes * n : Nat) : Int) ≤ 281474976710656 := by omega
    rwa [Int.natCast_mul] at h
  have hr := run_make (P := P) w t e i z h1 h2 h3 kl kc m n (by omega) (by omega) hb' h63'
  simp only [Int.toNat_natCast, h4, Nat.mul_one, hz] at hr
  subst hL
  subst hC
  unfold Oper.wp
  simp [execOp, hop, hl, hc, hr, Result.andThen]
  exact hK' _ _ (hK _ (by simp) (World.rowIs_made w z n e) (World.grownBy_alloc w _ none))

/-- 'append(s, x)' within the capacity, elements of one cell. -/
theorem wpList_push {P : Program} (w : World) {ops : Array Oper} {rest : List Oper} {o : Oper} {a : Act} {Q : Exit → Act → World → Prop}
    (hg : o.guard = none) (s x : Operand) (t : TypeId) (hop : o.op = Op.call { callee := Callee.builtin Builtin.append, args := #[s, x], argTypes := #[t, t] })
    (e : TypeId) (i : TypeInfo) (h1 : P.underlying t = some (.slice e)) (h2 : P.info? e = some i) (h4 : i.size = 1)
    (g k cap : Nat) (f : Nat → Value) (hs : a.eval s = .slice (some ⟨g, 0, none⟩) k cap) (hrow : w.rowIs g e cap f) (ad : Addr) (c : Nat) (u : Value) (hx : a.eval x = .slice (some ad) 1 c)
    (hu : w.cell? ad = some u) (hou : u.oneCell' = true) (hk : k < cap)
    (hK : ∀ w', w'.heap.size = w.heap.size → w'.rowIs g e cap (fun j => if j = k then u else f j) → w.grownBy w' (some g) → wpList P ops Q rest (a.put o.dst (.slice (some ⟨g, 0, none⟩) (k + 1) cap)) w') :
    wpList P ops Q (o :: rest) a w := by
  refine wpList_plain hg fun K hK' => ?_
  have had : ∀ j v, [u][j]? = some v → w.cell? (ad.add j) = some v := by
    intro j v hj
    match j, hj with
    | 0, hj =>
      simp at hj
      subst hj
      have : ad.add 0 = ad := by cases ad; simp [Addr.add]
      rw [this]; exact hu
  have hr := run_append_room_cells (P := P) w t o.type e i h1 h2 g 0 k cap ad 1 c [u] (by simp [h4]) had (by simp [hou]) (by omega)
    (by intro j hj; simp at hj; subst hj; rw [h4]; simp; rw [hrow.cell hk]; rfl) (by intro j hj; exact hrow.frozen _)
  simp only [h4, Nat.mul_one, Nat.zero_add] at hr
  have e1 : w.setCells g k [u] = w.setCell ⟨g, k, none⟩ u := by simp [World.setCells]
  rw [e1] at hr
  unfold Oper.wp
  simp [execOp, hop, resolve, invoke, builtin, hs, hx, hr, Result.andThen]
  exact hK' _ _ (hK _ (by simp) (hrow.set k u) (grown_set _ _ _))

/-- The row of block g, of n cells, bears the stack xs (top first) at its head. -/
def StkF (w : World) (g n : Nat) (xs : List Nat) : Prop := xs.length ≤ n ∧ ∃ f, w.rowIs g 3 n f ∧ ∀ j v, (memS xs)[j]? = some v → f j = v

theorem StkF.nil {w : World} {g n : Nat} {f : Nat → Value} (h : w.rowIs g 3 n f) : StkF w g n [] := ⟨Nat.zero_le _, f, h, by simp [memS]⟩

theorem StkF.kept {w w' : World} {g n : Nat} {xs : List Nat} {row : Option Nat} (h : StkF w g n xs) (hg : w.grownBy w' row) (hne : some g ≠ row) : StkF w' g n xs := by
  obtain ⟨h1, f, h2, h3⟩ := h
  exact ⟨h1, f, rowIs_kept h2 hg hne, h3⟩

theorem StkF.lt {w : World} {g n : Nat} {xs : List Nat} (h : StkF w g n xs) : g < w.heap.size := by
  obtain ⟨h1, f, h2, h3⟩ := h
  exact h2.lt

theorem StkF.top {w : World} {g n : Nat} {x : Nat} {B : List Nat} (h : StkF w g n (x :: B)) : w.cell? ⟨g, B.length, none⟩ = some (.int .i64 (x : Int)) ∧ w.frozen? ⟨g, B.length, none⟩ = false ∧ B.length < n := by
  obtain ⟨h1, f, h2, h3⟩ := h
  simp at h1
  refine ⟨?_, h2.frozen _, by omega⟩
  rw [h2.cell (by omega), h3 B.length (.int .i64 (x : Int)) (by simp [memS, memS_length])]

theorem StkF.pop {w : World} {g n : Nat} {x : Nat} {B : List Nat} (h : StkF w g n (x :: B)) : StkF w g n B := by
  obtain ⟨h1, f, h2, h3⟩ := h
  simp at h1
  refine ⟨by omega, f, h2, fun j v hv => h3 j v ?_⟩
  simp only [memS]
  rw [List.getElem?_append_left (by have := (List.getElem?_eq_some_iff.1 hv).1; exact this)]
  exact hv

theorem StkF.set {w : World} {g n : Nat} {x : Nat} {B : List Nat} (h : StkF w g n (x :: B)) (y : Nat) : StkF (w.setCell ⟨g, B.length, none⟩ (.int .i64 (y : Int))) g n (y :: B) := by
  obtain ⟨h1, f, h2, h3⟩ := h
  refine ⟨by simpa using h1, _, h2.set B.length _, fun j v hv => ?_⟩
  by_cases hj : j = B.length
  · subst hj
    simp [memS, memS_length] at hv ⊢
    exact hv
  · rw [if_neg hj]
    refine h3 j v ?_
    have hlt : j < (memS (y :: B)).length := (List.getElem?_eq_some_iff.1 hv).1
    simp [memS_length] at hlt
    simp only [memS] at hv ⊢
    rw [List.getElem?_append_left (by rw [memS_length]; omega)] at hv ⊢
    exact hv

theorem StkF.push {w' : World} {g n : Nat} {f : Nat → Value} {x : Nat} {B : List Nat} (hB : B.length < n) (h : ∀ j v, (memS B)[j]? = some v → f j = v) (hr : w'.rowIs g 3 n (fun j => if j = B.length then .int .i64 (x : Int) else f j)) : StkF w' g n (x :: B) := by
  refine ⟨by simp; omega, _, hr, fun j v hv => ?_⟩
  by_cases hj : j = B.length
  · subst hj
    simp [memS, memS_length] at hv ⊢
    exact hv
  · rw [if_neg hj]
    refine h j v ?_
    have hlt : j < (memS (x :: B)).length := (List.getElem?_eq_some_iff.1 hv).1
    simp [memS_length] at hlt
    simp only [memS] at hv
    rwa [List.getElem?_append_left (by rw [memS_length]; omega)] at hv
end Go.Proofs.Qxb6602302a

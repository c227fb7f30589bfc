/-
  Plain: paths in a graph given by lists of successors; lists without repeats.
-/
namespace Go.Proofs.Qxb6602302a
set_option linter.unusedVariables false

/-- From u to v in k steps. -/
def StepsN (g : Nat → List Nat) : Nat → Nat → Nat → Prop
  | 0, u, v => u = v
  | k + 1, u, v => ∃ w, w ∈ g u ∧ StepsN g k w v

/-- There is a path from u to v. -/
def Path (g : Nat → List Nat) (u v : Nat) : Prop := ∃ k, StepsN g k u v

theorem Path.refl (g : Nat → List Nat) (u : Nat) : Path g u u := ⟨0, rfl⟩
theorem Path.head {g : Nat → List Nat} {u w v : Nat} (h : w ∈ g u) (p : Path g w v) : Path g u v := by
  obtain ⟨k, hk⟩ := p
  exact ⟨k + 1, w, h, hk⟩
theorem Path.trans {g : Nat → List Nat} {u v w : Nat} (p : Path g u v) (q : Path g v w) : Path g u w := by
  obtain ⟨k, hk⟩ := p
  induction k generalizing u with
  | zero => cases hk; exact q
  | succ k ih =>
    obtain ⟨x, hx, hk⟩ := hk
    exact (ih hk).head hx
theorem Path.edge {g : Nat → List Nat} {u w : Nat} (h : w ∈ g u) : Path g u w := (Path.refl g w).head h
theorem Path.last {g : Nat → List Nat} {u v w : Nat} (p : Path g u v) (h : w ∈ g v) : Path g u w := p.trans (Path.edge h)

/-- A set that no edge leaves is left by no path. -/
theorem Path.stays {g : Nat → List Nat} {P : Nat → Prop} (hP : ∀ a, P a → ∀ b, b ∈ g a → P b) {u v : Nat} (p : Path g u v) (hu : P u) : P v := by
  obtain ⟨k, hk⟩ := p
  induction k generalizing u with
  | zero => cases hk; exact hu
  | succ k ih =>
    obtain ⟨x, hx, hk⟩ := hk
    exact ih (hP u hu x hx) hk

/-- Each reaches the other. -/
def SC (g : Nat → List Nat) (u v : Nat) : Prop := Path g u v ∧ Path g v u
theorem SC.refl (g : Nat → List Nat) (u : Nat) : SC g u u := ⟨Path.refl g u, Path.refl g u⟩
theorem SC.symm {g : Nat → List Nat} {u v : Nat} (h : SC g u v) : SC g v u := ⟨h.2, h.1⟩
theorem SC.trans {g : Nat → List Nat} {u v w : Nat} (h : SC g u v) (k : SC g v w) : SC g u w := ⟨h.1.trans k.1, k.2.trans h.2⟩

/-- From u to v in k steps, every node in P. -/
def InN (g : Nat → List Nat) (P : Nat → Prop) : Nat → Nat → Nat → Prop
  | 0, u, v => u = v ∧ P u
  | k + 1, u, v => P u ∧ ∃ w, w ∈ g u ∧ InN g P k w v
def PathIn (g : Nat → List Nat) (P : Nat → Prop) (u v : Nat) : Prop := ∃ k, InN g P k u v
theorem PathIn.refl {g : Nat → List Nat} {P : Nat → Prop} {u : Nat} (h : P u) : PathIn g P u u := ⟨0, rfl, h⟩
theorem PathIn.head {g : Nat → List Nat} {P : Nat → Prop} {u w v : Nat} (hu : P u) (h : w ∈ g u) (p : PathIn g P w v) : PathIn g P u v := by
  obtain ⟨k, hk⟩ := p
  exact ⟨k + 1, hu, w, h, hk⟩
theorem PathIn.first {g : Nat → List Nat} {P : Nat → Prop} {u v : Nat} (p : PathIn g P u v) : P u := by
  obtain ⟨k, hk⟩ := p
  cases k with
  | zero => exact hk.2
  | succ k => exact hk.1
theorem PathIn.path {g : Nat → List Nat} {P : Nat → Prop} {u v : Nat} (p : PathIn g P u v) : Path g u v := by
  obtain ⟨k, hk⟩ := p
  induction k generalizing u with
  | zero => obtain ⟨rfl, _⟩ := hk; exact Path.refl g _
  | succ k ih =>
    obtain ⟨_, x, hx, hk⟩ := hk
    exact (ih hk).head hx

/-! ### lists without repeats -/
theorem sum_perm {a b : List Nat} (h : a.Perm b) : a.sum = b.sum := by
  induction h with
  | nil => rfl
  | cons x _ ih => simp [ih]
  | swap x y l => simp; omega
  | trans _ _ i j => exact i.trans j

theorem sum_sub (f : Nat → Nat) : ∀ (l m : List Nat), l.Nodup → (∀ x, x ∈ l → x ∈ m) → (l.map f).sum ≤ (m.map f).sum
  | [], m, _, _ => by simp
  | x :: t, m, hn, hs => by
    have hx : x ∈ m := hs x (by simp)
    have hp := List.perm_cons_erase hx
    have h1 := sum_perm (hp.map f)
    have hn' := List.nodup_cons.1 hn
    have h2 := sum_sub f t (m.erase x) hn'.2 (fun y hy => by
      have hne : y ≠ x := fun e => hn'.1 (e ▸ hy)
      exact (List.mem_erase_of_ne hne).2 (hs y (by simp [hy])))
    simp only [List.map_cons, List.sum_cons] at h1 ⊢
    omega

theorem sum_below (f : Nat → Nat) (l : List Nat) (n : Nat) (hn : l.Nodup) (hl : ∀ x, x ∈ l → x < n) : (l.map f).sum ≤ ((List.range n).map f).sum :=
  sum_sub f l (List.range n) hn (fun x hx => List.mem_range.2 (hl x hx))

theorem map_one (l : List Nat) : (l.map (fun _ => 1)).sum = l.length := by
  induction l with
  | nil => rfl
  | cons x t ih => simp [ih]; omega

theorem len_below (l : List Nat) (n : Nat) (hn : l.Nodup) (hl : ∀ x, x ∈ l → x < n) : l.length ≤ n := by
  have := sum_below (fun _ => 1) l n hn hl
  rw [map_one, map_one, List.length_range] at this
  exact this

theorem mem_take_of {l : List Nat} {k : Nat} {x : Nat} : x ∈ l.take k ↔ ∃ j, j < k ∧ l[j]? = some x := by
  rw [List.mem_iff_getElem?]
  constructor
  · rintro ⟨j, hj⟩
    rw [List.getElem?_take] at hj
    split at hj
    · exact ⟨j, ‹_›, hj⟩
    · cases hj
  · rintro ⟨j, hj, hx⟩
    exact ⟨j, by rw [List.getElem?_take, if_pos hj]; exact hx⟩

theorem take_snoc_of_le {l : List Nat} {k : Nat} (x : Nat) (h : k ≤ l.length) : (l ++ [x]).take k = l.take k := by
  rw [List.take_append_of_le_length h]
end Go.Proofs.Qxb6602302a

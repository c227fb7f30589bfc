/-
  Plain: the edges turned round: counts, running sums, the row of predecessors.
-/
import Derived.Test.Qxb6602302aGraph
import Derived.Test.Qxb6602302aTar
namespace Go.Proofs.Qxb6602302a
set_option linter.unusedVariables false

/-- The edges out of the nodes below v, then the first j of v. -/
def pre (g : Nat → List Nat) (v j : Nat) : List (Nat × Nat) := (List.range v).flatMap (fun u => (g u).map (fun w => (u, w))) ++ ((g v).take j).map (fun w => (v, w))

theorem pre_zero (g : Nat → List Nat) : pre g 0 0 = [] := by simp [pre]
theorem pre_row (g : Nat → List Nat) (v : Nat) : pre g v (g v).length = pre g (v + 1) 0 := by
  unfold pre
  rw [List.take_length, List.range_succ, List.flatMap_append]
  simp
theorem pre_step {g : Nat → List Nat} {v j w : Nat} (h : (g v)[j]? = some w) : pre g v (j + 1) = pre g v j ++ [(v, w)] := by
  unfold pre
  rw [List.take_add_one, h]
  simp
theorem pre_mem {g : Nat → List Nat} {n u w : Nat} : (u, w) ∈ pre g n 0 ↔ u < n ∧ w ∈ g u := by
  unfold pre
  simp [List.mem_flatMap, List.mem_map]

theorem pre_prefix (g : Nat → List Nat) {v j n w : Nat} (hv : v < n) (h : (g v)[j]? = some w) : ∃ rest, pre g n 0 = pre g v j ++ (v, w) :: rest := by
  have h1 : ∃ r1, pre g (v + 1) 0 = pre g v j ++ (v, w) :: r1 := by
    rw [← pre_row]
    unfold pre
    rw [List.take_length]
    have hlt : j < (g v).length := (List.getElem?_eq_some_iff.1 h).1
    have e := List.take_append_drop j (g v)
    have e2 : (g v).drop j = w :: (g v).drop (j + 1) := by
      rw [List.drop_eq_getElem_cons hlt, (List.getElem?_eq_some_iff.1 h).2]
    refine ⟨((g v).drop (j + 1)).map (fun w => (v, w)), ?_⟩
    rw [List.append_assoc]
    congr 1
    rw [← List.map_cons, ← e2, ← List.map_append, e]
  obtain ⟨r1, h1⟩ := h1
  have h2 : ∀ m, v + 1 ≤ m → ∃ r2, pre g m 0 = pre g (v + 1) 0 ++ r2 := by
    intro m hm
    induction m with
    | zero => omega
    | succ m ih =>
      by_cases e : v + 1 = m + 1
      · exact ⟨[], by rw [e]; simp⟩
      · obtain ⟨r2, h2⟩ := ih (by omega)
        refine ⟨r2 ++ (g m).map (fun w => (m, w)), ?_⟩
        rw [← List.append_assoc, ← h2]
        unfold pre
        rw [List.range_succ, List.flatMap_append]
        simp
  obtain ⟨r2, h2⟩ := h2 n (by omega)
  exact ⟨r1 ++ r2, by rw [h2, h1]; simp⟩

/-- The sources of the edges to w, in order. -/
def srcs (es : List (Nat × Nat)) (w : Nat) : List Nat := (es.filter (fun e => e.2 == w)).map (·.1)

theorem srcs_nil (w : Nat) : srcs [] w = [] := rfl
theorem srcs_append (a b : List (Nat × Nat)) (w : Nat) : srcs (a ++ b) w = srcs a w ++ srcs b w := by simp [srcs]
theorem srcs_snoc (es : List (Nat × Nat)) (v w : Nat) : srcs (es ++ [(v, w)]) w = srcs es w ++ [v] := by rw [srcs_append]; simp [srcs]
theorem srcs_other (es : List (Nat × Nat)) {v w x : Nat} (h : x ≠ w) : srcs (es ++ [(v, w)]) x = srcs es x := by
  rw [srcs_append]
  have : (w == x) = false := by rw [beq_eq_false_iff_ne]; exact fun e => h e.symm
  simp [srcs, this]
theorem srcs_mem {es : List (Nat × Nat)} {u w : Nat} : u ∈ srcs es w ↔ (u, w) ∈ es := by
  unfold srcs
  constructor
  · intro h
    rw [List.mem_map] at h
    obtain ⟨⟨a, b⟩, h1, h2⟩ := h
    rw [List.mem_filter] at h1
    simp at h1 h2
    obtain ⟨h1, rfl⟩ := h1
    subst h2
    exact h1
  · intro h
    rw [List.mem_map]
    exact ⟨(u, w), by rw [List.mem_filter]; exact ⟨h, by simp⟩, rfl⟩

/-- Where the predecessors of w begin. -/
def st (es : List (Nat × Nat)) : Nat → Nat
  | 0 => 0
  | w + 1 => st es w + (srcs es w).length

theorem st_mono (es : List (Nat × Nat)) {a b : Nat} (h : a ≤ b) : st es a ≤ st es b := by
  induction b with
  | zero => have : a = 0 := by omega
            subst this; exact Nat.le_refl _
  | succ b ih =>
    by_cases e : a = b + 1
    · subst e; exact Nat.le_refl _
    · have := ih (by omega)
      simp only [st]
      omega

theorem st_snoc (es : List (Nat × Nat)) (v w : Nat) : ∀ m, st (es ++ [(v, w)]) m = st es m + if w < m then 1 else 0
  | 0 => by simp [st]
  | m + 1 => by
    simp only [st]
    rw [st_snoc es v w m]
    by_cases e : m = w
    · subst e
      rw [srcs_snoc]
      simp
      omega
    · rw [srcs_other _ e]
      by_cases h : w < m
      · rw [if_pos h, if_pos (by omega)]; omega
      · rw [if_neg h, if_neg (by omega)]; omega

theorem snocRec {α : Type} {motive : List α → Prop} (nil : motive []) (snoc : ∀ es e, motive es → motive (es ++ [e])) (es : List α) : motive es := by
  have h : ∀ (l : List α), motive l.reverse := by
    intro l
    induction l with
    | nil => exact nil
    | cons a l ih => rw [List.reverse_cons]; exact snoc _ _ ih
  have := h es.reverse
  rwa [List.reverse_reverse] at this

theorem st_total {n : Nat} (es : List (Nat × Nat)) (h : ∀ e, e ∈ es → e.2 < n) : st es n = es.length := by
  induction es using snocRec with
  | nil =>
    have : ∀ m, st [] m = 0 := by
      intro m
      induction m with
      | zero => rfl
      | succ m ih => simp [st, ih, srcs_nil]
    simp [this]
  | snoc es e ih =>
    obtain ⟨v, w⟩ := e
    rw [st_snoc, ih (fun e he => h e (by simp [he])), if_pos (h (v, w) (by simp))]
    simp

/-- The row of predecessors bears the edges es. -/
def Filled (all es : List (Nat × Nat)) (pred : Nat → Nat) : Prop := ∀ w i u, (srcs es w)[i]? = some u → pred (st all w + i) = u

theorem Filled.start (all : List (Nat × Nat)) (pred : Nat → Nat) : Filled all [] pred := by intro w i u h; simp [srcs_nil] at h

theorem Filled.step {all es rest : List (Nat × Nat)} {pred : Nat → Nat} {v w : Nat} (h : Filled all es pred) (ha : all = es ++ (v, w) :: rest) : Filled all (es ++ [(v, w)]) (upd pred (st all w + (srcs es w).length) v) := by
  have hlen : ∀ x, (srcs (es ++ [(v, w)]) x).length ≤ (srcs all x).length := by
    intro x
    rw [ha, show es ++ (v, w) :: rest = (es ++ [(v, w)]) ++ rest by simp, srcs_append (es ++ [(v, w)]) rest]
    simp
  have hl0 := hlen w
  rw [srcs_snoc] at hl0
  simp at hl0
  intro x i u hx
  have hil : i < (srcs (es ++ [(v, w)]) x).length := (List.getElem?_eq_some_iff.1 hx).1
  have hx2 := hlen x
  by_cases e : x = w
  · subst e
    rw [srcs_snoc] at hx
    by_cases hi : i = (srcs es x).length
    · subst hi
      simp at hx
      subst hx
      exact upd_same _ _ _
    · rw [srcs_snoc] at hil
      simp at hil
      rw [List.getElem?_append_left (by omega)] at hx
      rw [upd_other _ _ (by omega)]
      exact h x i u hx
  · rw [srcs_other _ e] at hx hil hx2
    rw [upd_other]
    · exact h x i u hx
    · rcases Nat.lt_or_ge x w with hlt | hge
      · have := st_mono all (show x + 1 ≤ w by omega)
        simp only [st] at this
        omega
      · have := st_mono all (show w + 1 ≤ x by omega)
        simp only [st] at this
        omega

theorem fill_pos {all es rest : List (Nat × Nat)} {v w n : Nat} (ha : all = es ++ (v, w) :: rest) (hw : w < n) : st all w + (srcs es w).length < st all n := by
  have h1 : (srcs es w).length + 1 ≤ (srcs all w).length := by
    rw [ha, show es ++ (v, w) :: rest = (es ++ [(v, w)]) ++ rest by simp, srcs_append (es ++ [(v, w)]) rest, srcs_snoc]
    simp
  have := st_mono all (show w + 1 ≤ n by omega)
  simp only [st] at this
  omega

/-- A place within v's stretch holds a predecessor of v. -/
theorem Filled.at {all : List (Nat × Nat)} {pred : Nat → Nat} (h : Filled all all pred) {v j : Nat} (h1 : st all v ≤ j) (h2 : j < st all (v + 1)) : (pred j, v) ∈ all := by
  simp only [st] at h2
  have hlt : j - st all v < (srcs all v).length := by omega
  have := h v (j - st all v) _ (List.getElem?_eq_getElem hlt)
  rw [show st all v + (j - st all v) = j by omega] at this
  rw [← srcs_mem, this]
  exact List.getElem_mem _

/-- Every predecessor of v lies within v's stretch. -/
theorem Filled.has {all : List (Nat × Nat)} {pred : Nat → Nat} (h : Filled all all pred) {u v : Nat} (hu : (u, v) ∈ all) : ∃ j, st all v ≤ j ∧ j < st all (v + 1) ∧ pred j = u := by
  rw [← srcs_mem] at hu
  obtain ⟨i, hi⟩ := List.mem_iff_getElem?.1 hu
  refine ⟨st all v + i, by omega, ?_, h v i u hi⟩
  have := (List.getElem?_eq_some_iff.1 hi).1
  simp only [st]
  omega
end Go.Proofs.Qxb6602302a

/-
  Plain: the first search of Kosaraju's algorithm (the finishing order) and its second (the components).
-/
import Derived.Test.Qxb6602302aGraph
namespace Go.Proofs.Qxb6602302a
set_option linter.unusedVariables false

/-! ### the finishing order -/
/-- At each place of the order: whatever finished since its node was first met is reached from it; and no edge leads from what had finished ahead of that into what finished since. -/
def Fin (g : Nat → List Nat) (order : List Nat) : Prop :=
  ∀ i r, order[i]? = some r → ∃ k, k ≤ i ∧ (∀ j x, k ≤ j → j ≤ i → order[j]? = some x → Path g r x) ∧
    ∀ a, a ∈ order.take k → ∀ b, b ∈ g a → b ∈ order.take k ∨ b ∉ order.take (i + 1)

/-- WHAT THE SECOND SEARCH NEEDS: a node that leads to r through nodes that finished no later than r is reached from r. -/
theorem Fin.back {g : Nat → List Nat} {order : List Nat} (h : Fin g order) (hn : order.Nodup) {i r u : Nat} (hr : order[i]? = some r) (p : PathIn g (fun x => x ∈ order.take (i + 1)) u r) : Path g r u := by
  obtain ⟨k, hk, h1, h2⟩ := h i r hr
  have key : ∀ (m u : Nat), InN g (fun x => x ∈ order.take (i + 1)) m u r → u ∈ order.take k → False := by
    intro m
    induction m with
    | zero =>
      intro u hm hu
      obtain ⟨rfl, _⟩ := hm
      obtain ⟨j, hj, hx⟩ := mem_take_of.1 hu
      have hlt : j < order.length := (List.getElem?_eq_some_iff.1 hx).1
      have hlt' : i < order.length := (List.getElem?_eq_some_iff.1 hr).1
      have e : j = i := (List.getElem?_inj hlt hn).1 (hx.trans hr.symm)
      omega
    | succ m ih =>
      intro u hm hu
      obtain ⟨_, w, hw, hm⟩ := hm
      rcases h2 u hu w hw with h3 | h3
      · exact ih w hm h3
      · exact h3 (PathIn.first ⟨m, hm⟩)
  obtain ⟨m, hm⟩ := p
  have hu := PathIn.first ⟨m, hm⟩
  obtain ⟨j, hj, hx⟩ := mem_take_of.1 hu
  by_cases hjk : k ≤ j
  · exact h1 j u hjk (by omega) hx
  · exact absurd (mem_take_of.2 ⟨j, by omega, hx⟩) (fun h => key m u hm h)

/-- A frame of the first search: its node, the next edge, and (a ghost) how many had finished when it was met. -/
structure Fr where
  v : Nat
  i : Nat
  k : Nat

def nodes (st : List Fr) : List Nat := st.map (·.v)

/-- No edge leads out of what had finished when a frame was met, but to itself and to the frames below. -/
def Low (g : Nat → List Nat) (order : List Nat) : List Fr → Prop
  | [] => True
  | f :: B => (∀ a, a ∈ order.take f.k → ∀ b, b ∈ g a → b ∈ order.take f.k ∨ b ∈ nodes B) ∧ Low g order B

/-- The state of the first search. -/
structure K1 (g : Nat → List Nat) (n : Nat) (order : List Nat) (st : List Fr) (vis : Nat → Bool) : Prop where
  vis_iff : ∀ v, vis v = true ↔ v ∈ order ∨ v ∈ nodes st
  lt : ∀ v, v ∈ order ++ nodes st → v < n
  nd : (order ++ nodes st).Nodup
  edgeF : ∀ a, a ∈ order → ∀ b, b ∈ g a → vis b = true
  edgeS : ∀ f, f ∈ st → f.i ≤ (g f.v).length ∧ ∀ b, b ∈ (g f.v).take f.i → vis b = true
  kle : ∀ f, f ∈ st → f.k ≤ order.length
  desc : ∀ f, f ∈ st → ∀ j x, f.k ≤ j → order[j]? = some x → Path g f.v x
  chain : st.Pairwise (fun x y => Path g y.v x.v)
  low : Low g order st
  fin : Fin g order

theorem K1.start (g : Nat → List Nat) (n : Nat) : K1 g n [] [] (fun _ => false) where
  vis_iff := by simp [nodes]
  lt := by simp [nodes]
  nd := by simp [nodes]
  edgeF := by simp
  edgeS := by simp
  kle := by simp
  desc := by simp
  chain := List.Pairwise.nil
  low := trivial
  fin := by intro i r h; simp at h

/-- An edge to a node that was met: the frame goes on. -/
theorem K1.skip {g : Nat → List Nat} {n : Nat} {order : List Nat} {f : Fr} {B : List Fr} {vis : Nat → Bool} (h : K1 g n order (f :: B) vis) {w : Nat} (hi : (g f.v)[f.i]? = some w) (hw : vis w = true) :
    K1 g n order (⟨f.v, f.i + 1, f.k⟩ :: B) vis where
  vis_iff := h.vis_iff
  lt := h.lt
  nd := h.nd
  edgeF := h.edgeF
  edgeS := by
    intro f' hf'
    rcases List.mem_cons.1 hf' with rfl | hf'
    · have hlt : f.i < (g f.v).length := (List.getElem?_eq_some_iff.1 hi).1
      refine ⟨hlt, fun b hb => ?_⟩
      obtain ⟨j, hj, hx⟩ := mem_take_of.1 hb
      by_cases e : j = f.i
      · subst e
        rw [hi] at hx
        cases hx
        exact hw
      · exact (h.edgeS f (by simp)).2 b (mem_take_of.2 ⟨j, by simp at hj; omega, hx⟩)
    · exact h.edgeS f' (by simp [hf'])
  kle := by
    intro f' hf'
    rcases List.mem_cons.1 hf' with rfl | hf'
    · exact h.kle f (by simp)
    · exact h.kle f' (by simp [hf'])
  desc := by
    intro f' hf'
    rcases List.mem_cons.1 hf' with rfl | hf'
    · exact h.desc f (by simp)
    · exact h.desc f' (by simp [hf'])
  chain := by
    have := List.pairwise_cons.1 h.chain
    exact List.pairwise_cons.2 ⟨this.1, this.2⟩
  low := h.low
  fin := h.fin

/-- A new frame, at a node that was not met. -/
theorem K1.push {g : Nat → List Nat} {n : Nat} {order : List Nat} {st : List Fr} {vis : Nat → Bool} (h : K1 g n order st vis) {w : Nat} (hwn : w < n) (hw : vis w = false) (hp : ∀ f, f ∈ st → Path g f.v w) :
    K1 g n order (⟨w, 0, order.length⟩ :: st) (fun x => if x = w then true else vis x) where
  vis_iff := by
    intro v
    by_cases e : v = w
    · subst e; simp [nodes]
    · simp only [e, if_false, h.vis_iff v]
      simp [nodes, e]
  lt := by
    intro v hv
    simp only [nodes, List.map_cons, List.mem_append, List.mem_cons] at hv
    rcases hv with hv | rfl | hv
    · exact h.lt v (by simp [hv])
    · exact hwn
    · exact h.lt v (by simp [nodes]; exact Or.inr (List.mem_map.1 hv))
  nd := by
    have h1 : w ∉ order ++ nodes st := fun hm => by
      have := (h.vis_iff w).2 (List.mem_append.1 hm)
      rw [hw] at this; cases this
    have h2 : (w :: (order ++ nodes st)).Nodup := List.nodup_cons.2 ⟨h1, h.nd⟩
    have h3 : (w :: (order ++ nodes st)).Perm (order ++ nodes (⟨w, 0, order.length⟩ :: st)) := by
      simp only [nodes, List.map_cons]
      exact List.perm_middle.symm
    exact h3.nodup_iff.1 h2
  edgeF := by
    intro a ha b hb
    have := h.edgeF a ha b hb
    by_cases e : b = w <;> simp [e, this]
  edgeS := by
    intro f hf
    rcases List.mem_cons.1 hf with rfl | hf
    · exact ⟨Nat.zero_le _, by simp⟩
    · refine ⟨(h.edgeS f hf).1, fun b hb => ?_⟩
      have := (h.edgeS f hf).2 b hb
      by_cases e : b = w <;> simp [e, this]
  kle := by
    intro f hf
    rcases List.mem_cons.1 hf with rfl | hf
    · exact Nat.le_refl _
    · exact h.kle f hf
  desc := by
    intro f hf j x hj hx
    rcases List.mem_cons.1 hf with rfl | hf
    · have := (List.getElem?_eq_some_iff.1 hx).1
      simp at hj; omega
    · exact h.desc f hf j x hj hx
  chain := List.pairwise_cons.2 ⟨fun f hf => hp f hf, h.chain⟩
  low := by
    refine ⟨fun a ha b hb => ?_, h.low⟩
    rw [List.take_of_length_le (Nat.le_refl _)] at ha ⊢
    exact (h.vis_iff b).1 (h.edgeF a ha b hb)
  fin := h.fin

theorem Low.snoc {g : Nat → List Nat} {order : List Nat} {v : Nat} : ∀ {st : List Fr}, (∀ f, f ∈ st → f.k ≤ order.length) → Low g order st → Low g (order ++ [v]) st
  | [], _, _ => trivial
  | f :: B, hk, h => by
    refine ⟨?_, Low.snoc (fun f' hf' => hk f' (by simp [hf'])) h.2⟩
    rw [take_snoc_of_le v (hk f (by simp))]
    exact h.1

/-- The frame on top is done: its node has finished. -/
theorem K1.finish {g : Nat → List Nat} {n : Nat} {order : List Nat} {f : Fr} {B : List Fr} {vis : Nat → Bool} (h : K1 g n order (f :: B) vis) (hi : f.i = (g f.v).length) : K1 g n (order ++ [f.v]) B vis where
  vis_iff := by
    intro v
    rw [h.vis_iff v]
    simp only [nodes, List.map_cons, List.mem_cons, List.mem_append, List.not_mem_nil, or_false]
    constructor
    · rintro (h1 | h1 | h1)
      · exact .inl (.inl h1)
      · exact .inl (.inr h1)
      · exact .inr h1
    · rintro ((h1 | h1) | h1)
      · exact .inl h1
      · exact .inr (.inl h1)
      · exact .inr (.inr h1)
  lt := by
    intro v hv
    refine h.lt v ?_
    simp only [nodes, List.map_cons, List.append_assoc, List.singleton_append] at hv ⊢
    exact hv
  nd := by
    have := h.nd
    simpa only [nodes, List.map_cons, List.append_assoc, List.singleton_append] using this
  edgeF := by
    intro a ha b hb
    rcases List.mem_append.1 ha with ha | ha
    · exact h.edgeF a ha b hb
    · rw [List.mem_singleton] at ha
      subst ha
      have := (h.edgeS f (by simp)).2 b
      rw [hi, List.take_of_length_le (Nat.le_refl _)] at this
      exact this hb
  edgeS := fun f' hf' => h.edgeS f' (by simp [hf'])
  kle := fun f' hf' => by
    have := h.kle f' (by simp [hf'])
    simp; omega
  desc := by
    intro f' hf' j x hj hx
    by_cases hlt : j < order.length
    · rw [List.getElem?_append_left hlt] at hx
      exact h.desc f' (by simp [hf']) j x hj hx
    · rw [List.getElem?_append_right (by omega)] at hx
      have hj0 : j - order.length = 0 := by
        have := (List.getElem?_eq_some_iff.1 hx).1
        simp at this; omega
      rw [hj0] at hx
      simp at hx
      subst hx
      exact (List.pairwise_cons.1 h.chain).1 f' hf'
  chain := (List.pairwise_cons.1 h.chain).2
  low := Low.snoc (fun f' hf' => h.kle f' (by simp [hf'])) h.low.2
  fin := by
    have hkf := h.kle f (by simp)
    intro i r hr
    by_cases hlt : i < order.length
    · rw [List.getElem?_append_left hlt] at hr
      obtain ⟨k, hk, h1, h2⟩ := h.fin i r hr
      refine ⟨k, hk, fun j x hj hji hx => ?_, ?_⟩
      · rw [List.getElem?_append_left (by omega)] at hx
        exact h1 j x hj hji hx
      · rw [take_snoc_of_le f.v (by omega), take_snoc_of_le f.v (by omega)]
        exact h2
    · have hi' : i = order.length := by
        have := (List.getElem?_eq_some_iff.1 hr).1
        simp at this; omega
      subst hi'
      rw [List.getElem?_append_right (Nat.le_refl _)] at hr
      simp at hr
      subst hr
      refine ⟨f.k, hkf, fun j x hj hji hx => ?_, fun a ha b hb => ?_⟩
      · by_cases e : j < order.length
        · rw [List.getElem?_append_left e] at hx
          exact h.desc f (by simp) j x hj hx
        · have : j = order.length := by omega
          subst this
          rw [List.getElem?_append_right (Nat.le_refl _)] at hx
          simp at hx
          subst hx
          exact Path.refl g _
      · rw [take_snoc_of_le f.v hkf] at ha ⊢
        rcases h.low.1 a ha b hb with h3 | h3
        · exact .inl h3
        · right
          rw [List.take_of_length_le (by simp)]
          intro hm
          have hnd := h.nd
          simp only [nodes, List.map_cons] at hnd
          rw [List.nodup_append] at hnd
          obtain ⟨_, n2, n3⟩ := hnd
          rcases List.mem_append.1 hm with hm | hm
          · exact n3 b hm b (by simp [nodes] at h3 ⊢; exact .inr h3) rfl
          · rw [List.mem_singleton] at hm
            subst hm
            exact (List.nodup_cons.1 n2).1 h3

/-- How many rounds have gone by. -/
def rounds1 (g : Nat → List Nat) (order : List Nat) (st : List Fr) : Nat := (order.map (fun v => (g v).length + 1)).sum + (st.map (·.i)).sum

def allRounds (g : Nat → List Nat) (n : Nat) : Nat := ((List.range n).map (fun v => (g v).length + 1)).sum

theorem rounds1_le {g : Nat → List Nat} {n : Nat} {order : List Nat} {st : List Fr} {vis : Nat → Bool} (h : K1 g n order st vis) : rounds1 g order st ≤ allRounds g n := by
  have h1 := sum_below (fun v => (g v).length + 1) (order ++ nodes st) n h.nd h.lt
  have h2 : (st.map (·.i)).sum ≤ ((nodes st).map (fun v => (g v).length + 1)).sum := by
    have := h.edgeS
    clear h1 h
    induction st with
    | nil => simp
    | cons f B ih =>
      have h3 := ih (fun f' hf' => this f' (by simp [hf']))
      have h4 := (this f (by simp)).1
      simp only [nodes, List.map_cons, List.sum_cons] at h3 ⊢
      omega
  rw [List.map_append, List.sum_append] at h1
  unfold rounds1 allRounds
  omega

theorem rounds1_skip (g : Nat → List Nat) (order : List Nat) (f : Fr) (B : List Fr) : rounds1 g order (⟨f.v, f.i + 1, f.k⟩ :: B) = rounds1 g order (f :: B) + 1 := by
  unfold rounds1; simp; omega
theorem rounds1_push (g : Nat → List Nat) (order : List Nat) (f : Fr) (B : List Fr) (w k : Nat) : rounds1 g order (⟨w, 0, k⟩ :: B) = rounds1 g order B := by
  unfold rounds1; simp
theorem rounds1_finish (g : Nat → List Nat) (order : List Nat) (f : Fr) (B : List Fr) (hi : f.i = (g f.v).length) : rounds1 g (order ++ [f.v]) B = rounds1 g order (f :: B) + 1 := by
  unfold rounds1; simp [hi]; omega

/-- With no frame left and every node met, the order holds them all. -/
theorem K1.all {g : Nat → List Nat} {n : Nat} {order : List Nat} {vis : Nat → Bool} (h : K1 g n order [] vis) (hv : ∀ v, v < n → vis v = true) : (∀ v, v < n ↔ v ∈ order) ∧ order.Nodup ∧ order.length = n := by
  have h1 : ∀ v, v < n ↔ v ∈ order := fun v => ⟨fun hlt => by
    rcases (h.vis_iff v).1 (hv v hlt) with h2 | h2
    · exact h2
    · simp [nodes] at h2, fun hm => h.lt v (by simp [hm])⟩
  have h2 : order.Nodup := by simpa [nodes] using h.nd
  refine ⟨h1, h2, ?_⟩
  have h3 := len_below order n h2 (fun v hv => (h1 v).2 hv)
  have h4 := sum_sub (fun _ => 1) (List.range n) order List.nodup_range (fun x hx => (h1 x).1 (List.mem_range.1 hx))
  rw [map_one, map_one, List.length_range] at h4
  omega
end Go.Proofs.Qxb6602302a

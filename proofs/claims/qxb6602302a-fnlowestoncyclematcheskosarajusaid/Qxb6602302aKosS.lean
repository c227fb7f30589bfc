/-
  Plain: the steps of the first search in the form in which the walk meets them.
-/
import Derived.Test.Qxb6602302aKos3
namespace Go.Proofs.Qxb6602302a
set_option linter.unusedVariables false

theorem K1.child {g : Nat → List Nat} {n : Nat} {order : List Nat} {f : Fr} {B : List Fr} {vis : Nat → Bool} (h : K1 g n order (f :: B) vis) {w : Nat} (hi : (g f.v)[f.i]? = some w) (hwn : w < n) (hw : vis w = false) :
    K1 g n order (⟨w, 0, order.length⟩ :: ⟨f.v, f.i + 1, f.k⟩ :: B) (fun x => if x = w then true else vis x) := by
  have hedge : Path g f.v w := Path.edge (List.mem_iff_getElem?.2 ⟨f.i, hi⟩)
  have hp : ∀ f', f' ∈ f :: B → Path g f'.v w := by
    intro f' hf'
    rcases List.mem_cons.1 hf' with rfl | hf'
    · exact hedge
    · exact ((List.pairwise_cons.1 h.chain).1 f' hf').trans hedge
  have p := h.push hwn hw hp
  have hlt : f.i < (g f.v).length := (List.getElem?_eq_some_iff.1 hi).1
  have mem : ∀ f', f' ∈ (⟨w, 0, order.length⟩ :: ⟨f.v, f.i + 1, f.k⟩ :: B : List Fr) → f' = ⟨w, 0, order.length⟩ ∨ f' = ⟨f.v, f.i + 1, f.k⟩ ∨ f' ∈ B := by
    intro f' hf'; simpa using hf'
  refine ⟨p.vis_iff, p.lt, p.nd, p.edgeF, ?_, ?_, ?_, ?_, ?_, p.fin⟩
  · intro f' hf'
    rcases mem f' hf' with rfl | rfl | hf'
    · exact p.edgeS _ (by simp)
    · refine ⟨hlt, fun b hb => ?_⟩
      obtain ⟨j, hj, hx⟩ := mem_take_of.1 hb
      by_cases e : j = f.i
      · subst e
        rw [hi] at hx
        cases hx
        simp
      · exact (p.edgeS f (by simp)).2 b (mem_take_of.2 ⟨j, by simp at hj; omega, hx⟩)
    · exact p.edgeS f' (by simp [hf'])
  · intro f' hf'
    rcases mem f' hf' with rfl | rfl | hf'
    · exact p.kle _ (by simp)
    · exact p.kle f (by simp)
    · exact p.kle f' (by simp [hf'])
  · intro f' hf'
    rcases mem f' hf' with rfl | rfl | hf'
    · exact p.desc _ (by simp)
    · exact p.desc f (by simp)
    · exact p.desc f' (by simp [hf'])
  · have h1 := List.pairwise_cons.1 p.chain
    have h2 := List.pairwise_cons.1 h1.2
    refine List.pairwise_cons.2 ⟨fun y hy => ?_, List.pairwise_cons.2 ⟨h2.1, h2.2⟩⟩
    rcases List.mem_cons.1 hy with rfl | hy
    · exact hedge
    · exact h1.1 y (by simp [hy])
  · exact p.low

theorem rounds1_child (g : Nat → List Nat) (order : List Nat) (f : Fr) (B : List Fr) (w k : Nat) : rounds1 g order (⟨w, 0, k⟩ :: ⟨f.v, f.i + 1, f.k⟩ :: B) = rounds1 g order (f :: B) + 1 := by
  unfold rounds1; simp; omega

theorem K1.len {g : Nat → List Nat} {n : Nat} {order : List Nat} {st : List Fr} {vis : Nat → Bool} (h : K1 g n order st vis) : order.length + st.length ≤ n := by
  have := len_below _ n h.nd h.lt
  simpa [nodes] using this

theorem K1.i_le {g : Nat → List Nat} {n : Nat} {order : List Nat} {f : Fr} {B : List Fr} {vis : Nat → Bool} (h : K1 g n order (f :: B) vis) : f.i ≤ (g f.v).length := (h.edgeS f (by simp)).1
theorem K1.v_lt {g : Nat → List Nat} {n : Nat} {order : List Nat} {f : Fr} {B : List Fr} {vis : Nat → Bool} (h : K1 g n order (f :: B) vis) : f.v < n := h.lt f.v (by simp [nodes])
end Go.Proofs.Qxb6602302a

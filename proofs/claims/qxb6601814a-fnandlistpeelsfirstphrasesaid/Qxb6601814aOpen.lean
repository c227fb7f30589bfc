import Derived.Test.Qxb6601814aStrs
import Derived.ProofKit
import Derived.Deep.Slices
namespace Go.Proofs.Qxb6601814a
open Go.ChangeShapes Go.WideShapes Go.ChangeAt Go.RowKit
set_option linter.unusedVariables false

theorem cells9 : Try.prog.cellsOf 9 = 1 := by kernel_rfl

/-- What the walk is told of the phrases that came in. -/
def IsStrs (w : World) (a : Option Addr) (len cap : Nat) (xs : List ByteArray) : Prop :=
  len = xs.length ∧ xs.length ≤ maxLen ∧ StrsOf w a xs ∧ (a = none → xs.length = 0 ∧ cap = 0)

theorem strs_open {H : Type} {enc : TypeId × Value → H} {W : World} {fuel : Nat} {a0 : Option Addr} {len0 cap0 : Nat} {x : DataW H × List MemPlace}
    (hf : DataW.trod enc Try.prog W 0 (fun _ => true) true fuel 22 [.slice a0 len0 cap0] = some x) : ∃ xs, IsStrs W a0 len0 cap0 xs := by
  rcases Deep.open_slice1 Try.underlying22 cells9 hf with ⟨hcs, _⟩ | ⟨a, len, cap, m, n, V, D, Pl, hcs, _, hl, hm, hmm, _, hx⟩
  · simp at hcs
    obtain ⟨rfl, rfl, rfl⟩ := hcs
    exact ⟨[], rfl, Nat.zero_le _, .inl rfl, fun _ => ⟨rfl, rfl⟩⟩
  · simp at hcs
    obtain ⟨rfl, rfl, rfl⟩ := hcs
    simp at hmm
    subst hmm
    obtain ⟨f, hfx⟩ := Deep.choose_lt (α := ByteArray) (n := len0) (p := fun i s => W.cell? (a.add i) = some (.string s)) (fun i hi => by
      obtain ⟨h1, h2⟩ := hx i (by omega)
      obtain ⟨s, e, _, _⟩ := DataW.trod_string Try.underlying9 h2
      simp at e
      rw [e] at h1
      exact ⟨s, h1⟩)
    refine ⟨(List.range len0).map f, by simp, by simp; omega, ?_, fun h => by cases h⟩
    by_cases h0 : len0 = 0
    · subst h0
      exact .inl rfl
    · obtain ⟨b, off, spot⟩ := a
      have hspot : spot = none := by simpa [Addr.add] using World.cell?_spot (hfx 0 (by omega))
      subst hspot
      refine .inr ⟨b, off, rfl, fun j s hj => ?_⟩
      have hjl : j < len0 := by
        have := (List.getElem?_eq_some_iff.1 hj).1
        simpa using this
      have h1 := hfx j hjl
      rw [Go.WideShapes.add_plain] at h1
      rw [h1]
      simp [hjl] at hj
      rw [hj]
end Go.Proofs.Qxb6601814a

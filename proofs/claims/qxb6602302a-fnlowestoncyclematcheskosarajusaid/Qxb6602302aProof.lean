import Derived.Test.Qxb6602302aRows
import Derived.Test.Qxb6602302aMain
import Derived.WalkKit
import Derived.ProofKit
import Derived.OpenShut
import Derived.ChangeOld
import Derived.Below
import Derived.Deep.Slices
namespace Go.Proofs.Qxb6602302a.fnLowestOnCycleMatchesKosaraju
open Go.ChangeShapes Go.WideShapes Go.ChangeAt Go.RowKit
set_option linter.unusedVariables false

theorem own : ownKnob Try.prog.godebug = none := by kernel_rfl
theorem laidOut : laidOutB Try.prog = true := by kernel_rfl
theorem cells9 : Try.prog.cellsOf 9 = 1 := by kernel_rfl
theorem cells3 : Try.prog.cellsOf 3 = 1 := by kernel_rfl
theorem cells25 : Try.prog.cellsOf 25 = 1 := by kernel_rfl

section
variable {H : Type} {enc : TypeId × Value → H} {W : World} {fuel : Nat} {x : DataW H × List MemPlace}

theorem strs_open {a0 : Option Addr} {len0 cap0 : Nat} (hf : DataW.trod enc Try.prog W 0 (fun _ => true) true fuel 22 [.slice a0 len0 cap0] = some x) : ∃ xs, len0 = xs.length ∧ xs.length ≤ maxLen ∧ StrsOf W a0 xs := by
  rcases Deep.open_slice1 Try.underlying22 cells9 hf with ⟨hcs, _⟩ | ⟨a, len, cap, m, n, V, D, Pl, hcs, _, hl, hm, hmm, _, hx⟩
  · simp at hcs
    obtain ⟨rfl, rfl, rfl⟩ := hcs
    exact ⟨[], rfl, Nat.zero_le _, .inl rfl⟩
  · simp at hcs
    obtain ⟨rfl, rfl, rfl⟩ := hcs
    simp at hmm
    subst hmm
    obtain ⟨f, hfx⟩ := Deep.choose_lt (α := ByteArray) (n := len0) (p := fun i s => W.cell? (a.add i) = some (.string s)) (fun i hi => by
      obtain ⟨h1, h2⟩ := hx i (by omega)
      obtain ⟨s, e, _, _⟩ := DataW.trod_string Try.underlying9 h2
      simp at e
      rw [e] at h1
      exact ⟨s, h1⟩)
    refine ⟨(List.range len0).map f, by simp, by simp; omega, ?_⟩
    by_cases h0 : len0 = 0
    · subst h0
      exact .inl rfl
    · obtain ⟨b, off, spot⟩ := a
      have hspot : spot = none := by simpa [Addr.add] using World.cell?_spot (hfx 0 (by omega))
      subst hspot
      refine .inr ⟨b, off, rfl, fun j s hj => ?_⟩
      have hjl : j < len0 := by
        have := (List.getElem?_eq_some_iff.1 hj).1
        simpa using this
      have h1 := hfx j hjl
      rw [Go.WideShapes.add_plain] at h1
      rw [h1]
      simp [hjl] at hj
      rw [hj]

theorem ints_open {v : Value} (hf : DataW.trod enc Try.prog W 0 (fun _ => true) true fuel 25 [v] = some x) : ∃ (xs : List Int) (a0 : Option Addr) (cap0 : Nat), v = .slice a0 xs.length cap0 ∧ xs.length ≤ maxLen ∧ IntsOf W a0 xs := by
  rcases Deep.open_slice1 Try.underlying25 cells3 hf with ⟨hcs, _⟩ | ⟨a, len, cap, m, n, V, D, Pl, hcs, _, hl, hm, hmm, _, hx⟩
  · simp at hcs
    subst hcs
    exact ⟨[], none, 0, rfl, Nat.zero_le _, .inl rfl⟩
  · simp at hcs
    subst hcs
    simp at hmm
    subst hmm
    obtain ⟨f, hfx⟩ := Deep.choose_lt (α := Int) (n := len) (p := fun i s => W.cell? (a.add i) = some (.int .i64 s)) (fun i hi => by
      obtain ⟨h1, h2⟩ := hx i (by omega)
      obtain ⟨s, e, _, _⟩ := DataW.trod_int Try.underlying3 h2
      simp at e
      rw [e] at h1
      exact ⟨s, h1⟩)
    refine ⟨(List.range len).map f, some a, m, by simp, by simp; omega, ?_⟩
    by_cases h0 : len = 0
    · subst h0
      exact .inl rfl
    · obtain ⟨b, off, spot⟩ := a
      have hspot : spot = none := by simpa [Addr.add] using World.cell?_spot (hfx 0 (by omega))
      subst hspot
      refine .inr ⟨b, off, rfl, fun j s hj => ?_⟩
      have hjl : j < len := by
        have := (List.getElem?_eq_some_iff.1 hj).1
        simpa using this
      have h1 := hfx j hjl
      rw [Go.WideShapes.add_plain] at h1
      rw [h1]
      simp [hjl] at hj
      rw [hj]

theorem rows_open {a0 : Option Addr} {len0 cap0 : Nat} (hf : DataW.trod enc Try.prog W 0 (fun _ => true) true fuel 23 [.slice a0 len0 cap0] = some x) : ∃ rows, len0 = rows.length ∧ rows.length ≤ maxLen ∧ (∀ r, r ∈ rows → r.length ≤ maxLen) ∧ RowsOf W a0 rows := by
  rcases Deep.open_slice1 Try.underlying23 cells25 hf with ⟨hcs, _⟩ | ⟨a, len, cap, m, n, V, D, Pl, hcs, _, hl, hm, hmm, _, hx⟩
  · simp at hcs
    obtain ⟨rfl, rfl, rfl⟩ := hcs
    exact ⟨[], rfl, Nat.zero_le _, by simp, .inl rfl⟩
  · simp at hcs
    obtain ⟨rfl, rfl, rfl⟩ := hcs
    simp at hmm
    subst hmm
    obtain ⟨f, hfx⟩ := Deep.choose_lt (α := List Int) (n := len0) (p := fun i r => ∃ (ao : Option Addr) (c : Nat), W.cell? (a.add i) = some (.slice ao r.length c) ∧ r.length ≤ maxLen ∧ IntsOf W ao r) (fun i hi => by
      obtain ⟨h1, h2⟩ := hx i (by omega)
      obtain ⟨xs, ao, c, e, h3, h4⟩ := ints_open h2
      rw [e] at h1
      exact ⟨xs, ao, c, h1, h3, h4⟩)
    refine ⟨(List.range len0).map f, by simp, by simp; omega, fun r hr => ?_, ?_⟩
    · rw [List.mem_map] at hr
      obtain ⟨i, hi, rfl⟩ := hr
      obtain ⟨_, _, _, h, _⟩ := hfx i (List.mem_range.1 hi)
      exact h
    by_cases h0 : len0 = 0
    · subst h0
      exact .inl rfl
    · obtain ⟨b, off, spot⟩ := a
      have hspot : spot = none := by
        obtain ⟨_, _, h, _⟩ := hfx 0 (by omega)
        simpa [Addr.add] using World.cell?_spot h
      subst hspot
      refine .inr ⟨b, off, rfl, fun j r hj => ?_⟩
      have hjl : j < len0 := by
        have := (List.getElem?_eq_some_iff.1 hj).1
        simpa using this
      obtain ⟨ao, c, h1, _, h2⟩ := hfx j hjl
      rw [Go.WideShapes.add_plain] at h1
      simp [hjl] at hj
      subst hj
      exact ⟨ao, c, h1, h2⟩
end

theorem walk (a0 a1 : Option Addr) (len0 cap0 len1 cap1 : Nat) (xs : List ByteArray) (rows : List (List Int)) (w : World) (e0 : len0 = xs.length) (l0 : xs.length ≤ maxLen) (s0 : StrsOf w a0 xs) (e1 : len1 = rows.length) (l1 : rows.length ≤ maxLen) (lr : ∀ r, r ∈ rows → r.length ≤ maxLen) (s1 : RowsOf w a1 rows) :
    Calls Try.prog 3 #[.slice a0 len0 cap0, .slice a1 len1 cap1] w fun e w' => e = .returned (.bool true) ∧ Below w.heap.size w w' := by
  subst e0
  subst e1
  exact mainW a0 a1 cap0 cap1 xs rows w l0 l1 lr s0 s1

/-! ### THE ROW's STEP -/
set_option maxRecDepth 100000 in
theorem lifted (os : Os) (started : os.Started) (H : Type) (enc : TypeId × Value → H) :
    ReturnsInHanded {} Try.checked os 3 .any (Rows.fnLowestOnCycleMatchesKosarajuSpec.pre6 enc Try.prog Try.f3 Rows.fnLowestOnCycleMatchesKosarajuRow.domain false) (Rows.fnLowestOnCycleMatchesKosarajuSpec.post enc Try.prog Try.f3 false true false false) := by
  refine returnsInHanded_of_change (C := Try.checked) own started (by kernel_rfl) Try.func3
    (ChangeSpec.witness6 (enc := enc) (C := Try.checked) false ⟨#[], #[.slice none 0 0, .slice none 0 0], []⟩ 8 (by kernel_rfl) (by kernel_rfl) (by kernel_rfl) (by kernel_rfl)) ?_
  intro W base args ds gs before hval0 hW hcnd _
  have hval : ∀ (j : Nat) t v, Try.f3.params[j]? = some t → args[j]? = some v → Value.okWide Try.prog W .any base t v := hval0
  have hW' := hW
  obtain ⟨p, q, hA0, hV, rfl, hfz, hnd⟩ := hW
  have hA : DataW.TrodAll enc Try.prog W 0 (fun _ => true) true Try.f3.params.toList args.toList ds p := hA0
  rw [Try.params3] at hA hval
  obtain ⟨v0, vs0, d0, ds0, p0, q0, hargs, rfl, rfl, h0, r0⟩ := trodAll_cons hA
  obtain ⟨v1, vs1, d1, ds1, p1, q1, rfl, rfl, rfl, h1, r1⟩ := trodAll_cons r0
  obtain ⟨rfl, rfl, rfl⟩ := trodAll_nil r1
  obtain rfl : args = #[v0, v1] := by cases args; simp_all
  obtain ⟨rfl, rfl⟩ := trodVars_none hV
  obtain ⟨a0, len0, cap0, rfl⟩ := okWide_slice Try.underlying22 (hval 0 22 v0 rfl rfl)
  obtain ⟨a1, len1, cap1, rfl⟩ := okWide_slice Try.underlying23 (hval 1 23 v1 rfl rfl)
  have k0 := h0
  have k1 := h1
  have lt0 : ∀ x ∈ p0, x.block < W.heap.size := by obtain ⟨m, hm⟩ := k0; exact DataW.trod_lt m _ _ _ hm
  have lt1 : ∀ x ∈ p1, x.block < W.heap.size := by obtain ⟨m, hm⟩ := k1; exact DataW.trod_lt m _ _ _ hm
  obtain ⟨xs, e0, l0, s0⟩ : ∃ xs, len0 = xs.length ∧ xs.length ≤ maxLen ∧ StrsOf W a0 xs := by
    obtain ⟨fuel, hf⟩ := h0
    exact strs_open hf
  obtain ⟨rows, e1, l1, lr, s1⟩ : ∃ rows, len1 = rows.length ∧ rows.length ≤ maxLen ∧ (∀ r, r ∈ rows → r.length ≤ maxLen) ∧ RowsOf W a1 rows := by
    obtain ⟨fuel, hf⟩ := h1
    exact rows_open hf
  clear hA0 hval0
  refine (walk a0 a1 len0 cap0 len1 cap1 xs rows W e0 l0 s0 e1 l1 lr s1).mono fun e W' ⟨he, bel⟩ => ?_
  subst he
  exact ⟨_, rfl, _, _, _, [], _, [], hW', trodAll_mk1 (shut_bool Try.underlying4 _), (trodAll_cons_mk (Below.trod laidOut (by kernel_rfl) (of_decide_eq_true (by kernel_rfl)) k0 bel lt0) (trodAll_cons_mk (Below.trod laidOut (by kernel_rfl) (of_decide_eq_true (by kernel_rfl)) k1 bel lt1) trodAll_mk0)), rfl, bel.frame _, fun h => by cases h⟩

theorem over : Rows.fnLowestOnCycleMatchesKosarajuRow.holds Try.pinned (OpenSpec.ofChange Rows.fnLowestOnCycleMatchesKosarajuSpec) :=
  OpenClaim.holds_of_wide 3 Try.f3 rfl rfl rfl rfl rfl rfl rfl ⟨rfl, rfl, rfl, rfl, rfl⟩ rfl rfl rfl rfl rfl (by kernel_rfl) Try.func3 (by kernel_rfl)
    (of_decide_eq_true (by kernel_rfl)) (by unfold Func.isWrapper; first | (rw [if_pos (by decide +kernel)]; kernel_rfl) | (rw [if_neg (by decide +kernel)]; exact ⟨rfl, rfl⟩))
    (fun os started H enc _ => lifted os started H enc)

/-- ████ THE STATEMENT ████ -/
theorem proved : Rows.FnLowestOnCycleMatchesKosarajuSaid := over
end Go.Proofs.Qxb6602302a.fnLowestOnCycleMatchesKosaraju

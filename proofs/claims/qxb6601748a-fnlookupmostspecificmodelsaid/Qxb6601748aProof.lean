import Derived.Test.Qxb6601748aRows
import Derived.Test.Qxb6601748aMain
import Derived.WalkKit
import Derived.ProofKit
import Derived.OpenShut
import Derived.ShutString
import Derived.ChangeOld
import Derived.Below
import Derived.Deep.Slices
import Derived.Deep.Strs
namespace Go.Proofs.Qxb6601748a.fnLookupMostSpecificModel
open Go.ChangeShapes Go.WideShapes Go.ChangeAt Go.RowKit
open Go.ChangeMaps (open_string shut_string)
set_option linter.unusedVariables false

theorem own : ownKnob Try.prog.godebug = none := by kernel_rfl
theorem laidOut : laidOutB Try.prog = true := by kernel_rfl
theorem cells38 : Try.prog.cellsOf 38 = 3 := by kernel_rfl
theorem cells9 : Try.prog.cellsOf 9 = 1 := by kernel_rfl

/-- What the walk is told of the entries that came in. -/
def IsEnts (w : World) (a : Option Addr) (len cap : Nat) (K U Q : Nat → ByteArray) : Prop :=
  len ≤ maxLen ∧ EntsOf w a len K U Q ∧ (∀ i, (K i).size ≤ maxLen) ∧ (a = none → len = 0 ∧ cap = 0)

theorem walk (a0 : Option Addr) (len0 cap0 : Nat) (K U Q : Nat → ByteArray) (a1 : Bool) (a2 : ByteArray) (a3 : ByteArray) (w : World) (w0 : IsEnts w a0 len0 cap0 K U Q) (w2 : a2.size ≤ maxLen) (w3 : a3.size ≤ maxLen) :
    Calls Try.prog 3 #[.slice a0 len0 cap0, .bool a1, .string a2, .string a3] w fun e w' => e = .returned (.bool true) ∧ Below w.heap.size w w' := by
  obtain ⟨hl, he, hK, hn⟩ := w0
  cases a0 with
  | none =>
    obtain ⟨rfl, rfl⟩ := hn rfl
    exact mainNil a1 a2 a3 w w2 w3
  | some a => exact mainSome a len0 cap0 K U Q a1 a2 a3 w hl he hK w2 w3

theorem ent_open {H : Type} {enc : TypeId × Value → H} {W : World} {n : Nat} {a : Addr} {y : DataW H × List MemPlace} {cs : List Value}
    (h1 : W.cells? 0 a 3 = some cs) (h2 : DataW.trod enc Try.prog W 0 (fun _ => true) true n 38 cs = some y) :
    ∃ x : ByteArray × ByteArray × ByteArray, W.cell? a = some (.string x.1) ∧ W.cell? (a.add 1) = some (.string x.2.1) ∧ W.cell? (a.add 2) = some (.string x.2.2) ∧ x.1.size ≤ maxLen := by
  obtain ⟨_, hlen, hc⟩ := World.cells?_some h1
  obtain ⟨y0, y1, y2, m, _, _, t0, t1, t2⟩ := Deep.trod_struct3 Try.underlying38 h2
  simp only [cells9] at t0 t1 t2
  obtain ⟨s0, e0, _, z0⟩ := DataW.trod_string Try.underlying9 t0
  obtain ⟨s1, e1, _, z1⟩ := DataW.trod_string Try.underlying9 t1
  obtain ⟨s2, e2, _, z2⟩ := DataW.trod_string Try.underlying9 t2
  match cs, hlen with
  | [c0, c1, c2], _ =>
    simp at e0 e1 e2
    subst e0 e1 e2
    exact ⟨⟨s0, s1, s2⟩, by simpa [Addr.add] using hc 0 (by omega), by simpa using hc 1 (by omega), by simpa using hc 2 (by omega), z0⟩

theorem ents_open {H : Type} {enc : TypeId × Value → H} {W : World} {fuel : Nat} {a0 : Option Addr} {len0 cap0 : Nat} {x : DataW H × List MemPlace}
    (hf : DataW.trod enc Try.prog W 0 (fun _ => true) true fuel 22 [.slice a0 len0 cap0] = some x) : ∃ K U Q, IsEnts W a0 len0 cap0 K U Q := by
  rcases Deep.open_slice Try.underlying22 hf with ⟨hcs, _⟩ | ⟨a, len, cap, m, n, D, Pl, hcs, _, hl, hm, hmm, _, hx⟩
  · simp at hcs
    obtain ⟨rfl, rfl, rfl⟩ := hcs
    exact ⟨fun _ => ⟨#[]⟩, fun _ => ⟨#[]⟩, fun _ => ⟨#[]⟩, Nat.zero_le _, .inl rfl, fun _ => Nat.zero_le _, fun _ => ⟨rfl, rfl⟩⟩
  · simp at hcs
    obtain ⟨rfl, rfl, rfl⟩ := hcs
    simp at hmm
    subst hmm
    rw [cells38] at hx
    obtain ⟨f, hfx⟩ := Deep.choose_lt (α := ByteArray × ByteArray × ByteArray) (n := len0) (p := fun i x => W.cell? (a.add (i * 3)) = some (.string x.1) ∧ W.cell? ((a.add (i * 3)).add 1) = some (.string x.2.1) ∧ W.cell? ((a.add (i * 3)).add 2) = some (.string x.2.2) ∧ x.1.size ≤ maxLen) (fun i hi => by
      obtain ⟨cs, h1, h2⟩ := hx i (by omega)
      exact ent_open h1 h2)
    refine ⟨fun i => if i < len0 then (f i).1 else ⟨#[]⟩, fun i => (f i).2.1, fun i => (f i).2.2, by omega, ?_, ?_, fun h => by cases h⟩
    · by_cases h0 : len0 = 0
      · exact .inl h0
      · obtain ⟨b, off, spot⟩ := a
        have hspot : spot = none := by simpa [Addr.add] using World.cell?_spot (hfx 0 (by omega)).1
        subst hspot
        refine .inr ⟨b, off, rfl, fun i hi => ?_⟩
        obtain ⟨c0, c1, c2, _⟩ := hfx i hi
        rw [Deep.add_add, Go.WideShapes.add_plain] at c1 c2
        rw [Go.WideShapes.add_plain] at c0
        refine ⟨?_, c1, c2⟩
        simp only [hi, if_true]
        exact c0
    · intro i
      by_cases hi : i < len0
      · simp only [hi, if_true]
        exact (hfx i hi).2.2.2
      · simp only [hi, if_false]
        exact Nat.zero_le _

/-! ### THE ROW's STEP: WRITTEN OUT: LEAVE IT -/
set_option maxRecDepth 100000 in
theorem lifted (os : Os) (started : os.Started) (H : Type) (enc : TypeId × Value → H) :
    ReturnsInHanded {} Try.checked os 3 .any (Rows.fnLookupMostSpecificModelSpec.pre6 enc Try.prog Try.f3 Rows.fnLookupMostSpecificModelRow.domain false) (Rows.fnLookupMostSpecificModelSpec.post enc Try.prog Try.f3 false true false false) := by
  refine returnsInHanded_of_change (C := Try.checked) own started (by kernel_rfl) Try.func3
    (ChangeSpec.witness6 (enc := enc) (C := Try.checked) false ⟨#[], #[.slice none 0 0, .bool false, .string ByteArray.empty, .string ByteArray.empty], []⟩ 8 (by kernel_rfl) (by kernel_rfl) (by kernel_rfl) (by kernel_rfl)) ?_
  intro W base args ds gs before hval0 hW hcnd _
  have hval : ∀ (j : Nat) t v, Try.f3.params[j]? = some t → args[j]? = some v → Value.okWide Try.prog W .any base t v := hval0
  have hW' := hW
  obtain ⟨p, q, hA0, hV, rfl, hfz, hnd⟩ := hW
  have hA : DataW.TrodAll enc Try.prog W 0 (fun _ => true) true Try.f3.params.toList args.toList ds p := hA0
  rw [Try.params3] at hA hval
  obtain ⟨v0, vs0, d0, ds0, p0, q0, hargs, rfl, rfl, h0, r0⟩ := trodAll_cons hA
  obtain ⟨v1, vs1, d1, ds1, p1, q1, rfl, rfl, rfl, h1, r1⟩ := trodAll_cons r0
  obtain ⟨v2, vs2, d2, ds2, p2, q2, rfl, rfl, rfl, h2, r2⟩ := trodAll_cons r1
  obtain ⟨v3, vs3, d3, ds3, p3, q3, rfl, rfl, rfl, h3, r3⟩ := trodAll_cons r2
  obtain ⟨rfl, rfl, rfl⟩ := trodAll_nil r3
  obtain rfl : args = #[v0, v1, v2, v3] := by cases args; simp_all
  obtain ⟨rfl, rfl⟩ := trodVars_none hV
  obtain ⟨a0, len0, cap0, rfl⟩ := okWide_slice Try.underlying22 (hval 0 22 v0 rfl rfl)
  have k0 := h0
  have lt0 : ∀ x ∈ p0, x.block < W.heap.size := by obtain ⟨m, hm⟩ := k0; exact DataW.trod_lt m _ _ _ hm
  obtain ⟨K, U, Q, w0⟩ : ∃ K U Q, IsEnts W a0 len0 cap0 K U Q := by
    obtain ⟨fuel, hf⟩ := h0
    exact ents_open hf
  obtain ⟨a1, rfl, rfl, rfl⟩ := open_bool Try.underlying4 (hval 1 4 v1 rfl rfl) h1
  obtain ⟨a2, rfl, rfl, rfl, w2⟩ := open_string Try.underlying9 (hval 2 9 v2 rfl rfl) h2
  obtain ⟨a3, rfl, rfl, rfl, w3⟩ := open_string Try.underlying9 (hval 3 9 v3 rfl rfl) h3
  clear hA0 hval0
  refine (walk a0 len0 cap0 K U Q a1 a2 a3 W w0 w2 w3).mono fun e W' ⟨he, bel⟩ => ?_
  subst he
  exact ⟨_, rfl, _, _, _, [], _, [], hW', trodAll_mk1 (shut_bool Try.underlying4 _), (trodAll_cons_mk (Below.trod laidOut (by kernel_rfl) (of_decide_eq_true (by kernel_rfl)) k0 bel lt0) (trodAll_cons_mk (shut_bool Try.underlying4 _) (trodAll_cons_mk (shut_string Try.underlying9 w2) (trodAll_cons_mk (shut_string Try.underlying9 w3) trodAll_mk0)))), rfl, bel.frame _, fun h => by cases h⟩

theorem over : Rows.fnLookupMostSpecificModelRow.holds Try.pinned (OpenSpec.ofChange Rows.fnLookupMostSpecificModelSpec) :=
  OpenClaim.holds_of_wide 3 Try.f3 rfl rfl rfl rfl rfl rfl rfl ⟨rfl, rfl, rfl, rfl, rfl⟩ rfl rfl rfl rfl rfl (by kernel_rfl) Try.func3 (by kernel_rfl)
    (of_decide_eq_true (by kernel_rfl)) (by unfold Func.isWrapper; first | (rw [if_pos (by decide +kernel)]; kernel_rfl) | (rw [if_neg (by decide +kernel)]; exact ⟨rfl, rfl⟩))
    (fun os started H enc _ => lifted os started H enc)

/-- ████ THE STATEMENT ████ -/
theorem proved : Rows.FnLookupMostSpecificModelSaid := over
end Go.Proofs.Qxb6601748a.fnLookupMostSpecificModel

import Derived.Test.Qxb6601748aCopy
import Derived.Maps.OwnSet
namespace Go.Proofs.Qxb6601748a
open Go.RowKit Go.Maps
set_option linter.unusedVariables false

theorem slashB_iff (k full : List UInt8) : slashB k full = true ↔ k = full.take k.length ∧ k.length ≤ full.length ∧ (k.length = full.length ∨ full[k.length]? = some 47) := by
  unfold slashB prefB
  simp only [Bool.and_eq_true, Bool.or_eq_true, decide_eq_true_eq, beq_iff_eq]
  constructor
  · rintro ⟨⟨h1, h2⟩, h3⟩
    exact ⟨h2.symm, h1, h3⟩
  · rintro ⟨h1, h2, h3⟩
    exact ⟨⟨h2, h1.symm⟩, h3⟩

/-- What both look-ups answer: the last of the longest keys that name 'full' or a namespace above it. -/
structure Best (n : Nat) (K U Q : Nat → ByteArray) (full : List UInt8) (u p : ByteArray) (ok : Bool) : Prop where
  no : ok = false → u = ⟨#[]⟩ ∧ p = ⟨#[]⟩ ∧ ∀ i, i < n → slashB (K i).data.toList full = false
  yes : ok = true → ∃ i, i < n ∧ slashB (K i).data.toList full = true ∧ u = U i ∧ p = Q i ∧
    ∀ j, j < n → slashB (K j).data.toList full = true → (K j).data.toList.length ≤ (K i).data.toList.length ∧ ((K j).data.toList.length = (K i).data.toList.length → j ≤ i)

theorem Best.one {n : Nat} {K U Q : Nat → ByteArray} {full : List UInt8} {u p u' p' : ByteArray} {ok ok' : Bool} (h : Best n K U Q full u p ok) (h' : Best n K U Q full u' p' ok') : ok = ok' ∧ u = u' ∧ p = p' := by
  cases ok <;> cases ok'
  · obtain ⟨rfl, rfl, _⟩ := h.no rfl
    obtain ⟨rfl, rfl, _⟩ := h'.no rfl
    exact ⟨rfl, rfl, rfl⟩
  · obtain ⟨_, _, hn⟩ := h.no rfl
    obtain ⟨i, hi, hs, _⟩ := h'.yes rfl
    rw [hn i hi] at hs
    cases hs
  · obtain ⟨_, _, hn⟩ := h'.no rfl
    obtain ⟨i, hi, hs, _⟩ := h.yes rfl
    rw [hn i hi] at hs
    cases hs
  · obtain ⟨i, hi, hs, rfl, rfl, hm⟩ := h.yes rfl
    obtain ⟨j, hj, hs', rfl, rfl, hm'⟩ := h'.yes rfl
    have h1 := hm j hj hs'
    have h2 := hm' i hi hs
    have : i = j := by
      have := h1.2 (by omega)
      have := h2.2 (by omega)
      omega
    subst this
    exact ⟨rfl, rfl, rfl⟩

/-- What the map answers at a key. -/
structure Found (n : Nat) (K U Q : Nat → ByteArray) (key : List UInt8) (u p : ByteArray) (ok : Bool) : Prop where
  no : ok = false → u = ⟨#[]⟩ ∧ p = ⟨#[]⟩ ∧ ∀ i, i < n → (K i).data.toList ≠ key
  yes : ok = true → ∃ i, i < n ∧ (K i).data.toList = key ∧ u = U i ∧ p = Q i ∧ ∀ j, j < n → (K j).data.toList = key → j ≤ i

/-- The state of the look-up's loop: the key in hand is a cut of full, and nothing longer fits. -/
structure Cut (n : Nat) (K : Nat → ByteArray) (full key : List UInt8) : Prop where
  take : key = full.take key.length
  le : key.length ≤ full.length
  cut : key.length = full.length ∨ full[key.length]? = some 47
  none : ∀ i, i < n → slashB (K i).data.toList full = true → (K i).data.toList.length ≤ key.length

theorem Cut.start (n : Nat) (K : Nat → ByteArray) (full : List UInt8) : Cut n K full full :=
  ⟨by simp, Nat.le_refl _, .inl rfl, fun i _ h => ((slashB_iff _ _).1 h).2.1⟩

theorem Cut.hit {n : Nat} {K U Q : Nat → ByteArray} {full key : List UInt8} {u p : ByteArray} (c : Cut n K full key) (f : Found n K U Q key u p true) : Best n K U Q full u p true := by
  refine ⟨fun h => (by cases h), fun _ => ?_⟩
  obtain ⟨i, hi, hk, rfl, rfl, hl⟩ := f.yes rfl
  refine ⟨i, hi, ?_, rfl, rfl, fun j hj hs => ?_⟩
  · rw [slashB_iff, hk]; exact ⟨c.take, c.le, c.cut⟩
  · refine ⟨by rw [hk]; exact c.none j hj hs, fun e => hl j hj ?_⟩
    rw [hk] at e
    have := ((slashB_iff _ _).1 hs).1
    rw [e, ← c.take] at this
    exact this

theorem Cut.stop {n : Nat} {K U Q : Nat → ByteArray} {full key : List UInt8} {u p : ByteArray} {r : Int} (c : Cut n K full key) (f : Found n K U Q key u p false) (hr : LastAt key 47 r) (h0 : r < 0) : Best n K U Q full ⟨#[]⟩ ⟨#[]⟩ false := by
  refine ⟨fun _ => ⟨rfl, rfl, fun i hi => ?_⟩, fun h => by cases h⟩
  obtain ⟨_, _, hno⟩ := f.no rfl
  cases hs : slashB (K i).data.toList full with
  | false => rfl
  | true =>
    exfalso
    have hle := c.none i hi hs
    obtain ⟨h1, h2, h3⟩ := (slashB_iff _ _).1 hs
    by_cases e : (K i).data.toList.length = key.length
    · rw [e, ← c.take] at h1
      exact hno i hi h1
    · have hlt : (K i).data.toList.length < key.length := by omega
      have hm := (hr.none h0).2 _ hlt
      rcases h3 with h3 | h3
      · have := c.le; omega
      · apply hm
        have e2 : key[(K i).data.toList.length]? = full[(K i).data.toList.length]? := by
          rw [c.take, List.getElem?_take, if_pos hlt]
        rw [h3, List.getElem?_eq_getElem hlt] at e2
        exact Option.some.inj e2

theorem Cut.next {n : Nat} {K U Q : Nat → ByteArray} {full key : List UInt8} {u p : ByteArray} {r : Int} (c : Cut n K full key) (f : Found n K U Q key u p false) (hr : LastAt key 47 r) (h0 : 0 ≤ r) : r.toNat < key.length ∧ Cut n K full (key.take r.toNat) := by
  obtain ⟨hlt, hat, hlast⟩ := hr.some h0
  refine ⟨hlt, ?_⟩
  have hlen : (key.take r.toNat).length = r.toNat := by rw [List.length_take]; omega
  obtain ⟨_, _, hno⟩ := f.no rfl
  refine ⟨?_, ?_, ?_, ?_⟩
  · rw [hlen, c.take, List.take_take, Nat.min_eq_left (by omega)]
  · rw [hlen]; have := c.le; omega
  · right
    rw [hlen]
    have e2 : key[r.toNat]? = full[r.toNat]? := by rw [c.take, List.getElem?_take, if_pos hlt]
    rw [← e2, List.getElem?_eq_getElem hlt, hat]
  · intro i hi hs
    rw [hlen]
    have hle := c.none i hi hs
    obtain ⟨h1, h2, h3⟩ := (slashB_iff _ _).1 hs
    by_cases e : (K i).data.toList.length = key.length
    · rw [e, ← c.take] at h1
      exact absurd h1 (hno i hi)
    · have hl2 : (K i).data.toList.length < key.length := by omega
      by_cases hle2 : (K i).data.toList.length ≤ r.toNat
      · exact hle2
      · exfalso
        have hm := hlast _ hl2 (by omega)
        rcases h3 with h3 | h3
        · have := c.le; omega
        · apply hm
          have e2 : key[(K i).data.toList.length]? = full[(K i).data.toList.length]? := by
            rw [c.take, List.getElem?_take, if_pos hl2]
          rw [h3, List.getElem?_eq_getElem hl2] at e2
          exact Option.some.inj e2

/-! ### the map of credentials -/
section
variable {H : Type}

def credDat (u p : ByteArray) : DataW H := .agg [.lit (.string u.data.toList), .lit (.string p.data.toList)]

def credElem : Value → Option (DataW H × List MemPlace)
  | .agg cs => match cs.toList with
    | [.string u, .string p] => some (credDat u p, [])
    | _ => none
  | _ => none

theorem credElem_mk (u p : ByteArray) : credElem (H := H) (.agg #[.string u, .string p]) = some (credDat u p, []) := rfl

theorem credElem_inv {v : Value} {z : DataW H × List MemPlace} (h : credElem v = some z) : ∃ u p, v = .agg #[.string u, .string p] ∧ z.1 = credDat u p := by
  unfold credElem at h
  split at h
  · rename_i cs
    split at h
    · rename_i u p hl
      cases h
      refine ⟨u, p, ?_, rfl⟩
      rw [show cs = #[.string u, .string p] from by rw [← Array.toArray_toList (xs := cs), hl]]
    · cases h
  · cases h

theorem bytes_ext {a b : ByteArray} (h : a.data.toList = b.data.toList) : a = b := by
  cases a; cases b
  congr
  exact Array.toList_inj.1 h

theorem credDat_inj {u p u' p' : ByteArray} (h : credDat (H := H) u p = credDat u' p') : u = u' ∧ p = p' := by
  unfold credDat at h
  simp only [DataW.agg.injEq, List.cons.injEq, DataW.lit.injEq, Lit.string.injEq, and_true] at h
  exact ⟨bytes_ext h.1, bytes_ext h.2⟩

structure MapIs (D : DataW H) (n : Nat) (K U Q : Nat → ByteArray) : Prop where
  hit : ∀ key i, i < n → (K i).data.toList = key → (∀ j, j < n → (K j).data.toList = key → j ≤ i) → Maps.has D (.string key) = true ∧ ∀ zd, D.atKey (.string key) zd = credDat (U i) (Q i)
  miss : ∀ key, (∀ i, i < n → (K i).data.toList ≠ key) → Maps.has D (.string key) = false ∧ ∀ zd, D.atKey (.string key) zd = zd

theorem MapIs.start (K U Q : Nat → ByteArray) : MapIs (.map [] : DataW H) 0 K U Q :=
  ⟨fun _ _ h => absurd h (by omega), fun _ _ => ⟨rfl, fun _ => rfl⟩⟩

theorem MapIs.step {D : DataW H} {n : Nat} {K U Q : Nat → ByteArray} (h : MapIs D n K U Q) (hD : IsMap D) : MapIs (D.put (.string (K n).data.toList) (credDat (U n) (Q n))) (n + 1) K U Q := by
  have hk : WideAt.IsKeyLit (.string (K n).data.toList) := trivial
  refine ⟨fun key i hi e hl => ?_, fun key hno => ?_⟩
  · by_cases he : (K n).data.toList = key
    · have := hl n (by omega) he
      have : i = n := by omega
      subst this
      subst he
      exact ⟨Maps.has_put_same hD hk _, fun zd => Maps.atKey_put_same hD hk _ zd⟩
    · have hne : Lit.string key ≠ Lit.string (K n).data.toList := fun e => he (by cases e; rfl)
      rw [Maps.has_put_other hne]
      have hi' : i < n := by
        rcases Nat.lt_or_ge i n with h | h
        · exact h
        · have : i = n := by omega
          subst this
          exact absurd e he
      obtain ⟨h1, h2⟩ := h.hit key i hi' e (fun j hj => hl j (by omega))
      exact ⟨h1, fun zd => by rw [Maps.atKey_put_other hne]; exact h2 zd⟩
  · have hne : Lit.string key ≠ Lit.string (K n).data.toList := fun e => hno n (by omega) (by cases e; rfl)
    rw [Maps.has_put_other hne]
    obtain ⟨h1, h2⟩ := h.miss key (fun i hi => hno i (by omega))
    exact ⟨h1, fun zd => by rw [Maps.atKey_put_other hne]; exact h2 zd⟩

theorem last_or_none (n : Nat) (p : Nat → Prop) : (∀ i, i < n → ¬ p i) ∨ ∃ i, i < n ∧ p i ∧ ∀ j, j < n → p j → j ≤ i := by
  classical
  induction n with
  | zero => exact .inl fun i h => absurd h (by omega)
  | succ n ih =>
    by_cases hn : p n
    · exact .inr ⟨n, by omega, hn, fun j hj _ => by omega⟩
    · rcases ih with h | ⟨i, hi, hp, hl⟩
      · left
        intro i hi
        by_cases e : i = n
        · subst e; exact hn
        · exact h i (by omega)
      · right
        refine ⟨i, by omega, hp, fun j hj hpj => ?_⟩
        by_cases e : j = n
        · subst e; exact absurd hpj hn
        · exact hl j (by omega) hpj

/-- What a look-up in the map finds. -/
theorem MapIs.found {D : DataW H} {n : Nat} {K U Q : Nat → ByteArray} (h : MapIs D n K U Q) (key : List UInt8) {u p : ByteArray} (hat : D.atKey (.string key) (credDat ⟨#[]⟩ ⟨#[]⟩) = credDat u p) : Found n K U Q key u p (Maps.has D (.string key)) := by
  rcases last_or_none n (fun i => (K i).data.toList = key) with hno | ⟨i, hi, hk, hl⟩
  · obtain ⟨h1, h2⟩ := h.miss key hno
    rw [h2] at hat
    obtain ⟨rfl, rfl⟩ := credDat_inj hat
    exact ⟨fun _ => ⟨rfl, rfl, hno⟩, fun e => by rw [h1] at e; cases e⟩
  · obtain ⟨h1, h2⟩ := h.hit key i hi hk hl
    rw [h2] at hat
    obtain ⟨rfl, rfl⟩ := credDat_inj hat
    exact ⟨fun e => (by rw [h1] at e; cases e), fun _ => ⟨i, hi, hk, rfl, rfl, hl⟩⟩
end
end Go.Proofs.Qxb6601748a

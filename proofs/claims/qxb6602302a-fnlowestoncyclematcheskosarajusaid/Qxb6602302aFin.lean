/-
  Plain: what the two algorithms answer, compared.
-/
import Derived.Test.Qxb6602302aTar2
import Derived.Test.Qxb6602302aKos3
namespace Go.Proofs.Qxb6602302a
set_option linter.unusedVariables false

variable {g : Nat → List Nat} {n k c : Nat} {kc : Nat → Int} {comp : Nat → Nat} {lo : Int}

theorem both_same (hK : KosRes g n kc k) (hT : TarRes g n comp c lo) : ∀ u v, u < n → v < n → (kc u = kc v ↔ comp u = comp v) := fun u v hu hv => (hK.same u v hu hv).trans (hT.same u v hu hv).symm

theorem c_le_k (hK : KosRes g n kc k) (hT : TarRes g n comp c lo) : c ≤ k := by
  have hx : ∃ f : Nat → Nat, ∀ j, j < c → f j < n ∧ comp (f j) = j := by
    refine ⟨fun j => if hj : j < c then Classical.choose (hT.surj j hj) else 0, fun j hj => ?_⟩
    simp only [dif_pos hj]
    exact Classical.choose_spec (hT.surj j hj)
  obtain ⟨f, hf⟩ := hx
  have h1 := len_below ((List.range c).map (fun j => (kc (f j)).toNat)) k (by
    rw [List.nodup_iff_pairwise_ne, List.pairwise_map]
    refine (List.nodup_iff_pairwise_ne.1 List.nodup_range).imp_of_mem fun {a b} ha hb hab e => hab ?_
    have ha' := hf a (List.mem_range.1 ha)
    have hb' := hf b (List.mem_range.1 hb)
    have h2 := hK.rng _ ha'.1
    have h3 := hK.rng _ hb'.1
    have h4 : kc (f a) = kc (f b) := by omega
    rw [← ha'.2, ← hb'.2]
    exact (both_same hK hT _ _ ha'.1 hb'.1).1 h4) (by
    intro v hv
    rw [List.mem_map] at hv
    obtain ⟨j, hj, rfl⟩ := hv
    have h2 := hK.rng _ (hf j (List.mem_range.1 hj)).1
    omega)
  simpa using h1

theorem comp_lt_k (hK : KosRes g n kc k) (hT : TarRes g n comp c lo) : ∀ u, u < n → comp u < k := fun u hu => Nat.lt_of_lt_of_le (hT.rng u hu) (c_le_k hK hT)

/-- How many of the first m nodes bear the number a. -/
def cntK (kc : Nat → Int) : Nat → Nat → Nat
  | 0, _ => 0
  | m + 1, a => cntK kc m a + if kc m = a then 1 else 0

theorem cntK_le (kc : Nat → Int) : ∀ m a, cntK kc m a ≤ m
  | 0, _ => Nat.le_refl _
  | m + 1, a => by
    have := cntK_le kc m a
    unfold cntK
    split <;> omega

theorem cntK_pos {kc : Nat → Int} {m a u : Nat} (hu : u < m) (h : kc u = a) : 1 ≤ cntK kc m a := by
  induction m with
  | zero => omega
  | succ m ih =>
    unfold cntK
    by_cases e : u = m
    · subst e; rw [if_pos h]; omega
    · have := ih (by omega)
      omega

theorem cntK_one {kc : Nat → Int} {m a : Nat} (h : 1 ≤ cntK kc m a) : ∃ u, u < m ∧ kc u = a := by
  induction m with
  | zero => simp [cntK] at h
  | succ m ih =>
    unfold cntK at h
    by_cases e : kc m = a
    · exact ⟨m, by omega, e⟩
    · rw [if_neg e] at h
      obtain ⟨u, h1, h2⟩ := ih (by omega)
      exact ⟨u, by omega, h2⟩

theorem cntK_two {kc : Nat → Int} {m a : Nat} : 1 < cntK kc m a ↔ ∃ u v, u < v ∧ v < m ∧ kc u = a ∧ kc v = a := by
  induction m with
  | zero => simp [cntK]
  | succ m ih =>
    unfold cntK
    by_cases e : kc m = a
    · rw [if_pos e]
      constructor
      · intro h
        obtain ⟨u, h1, h2⟩ := cntK_one (kc := kc) (m := m) (a := a) (by omega)
        exact ⟨u, m, h1, by omega, h2, e⟩
      · rintro ⟨u, v, h1, h2, h3, h4⟩
        have := cntK_pos (kc := kc) (m := m) (a := a) (u := u) (by omega) h3
        omega
    · rw [if_neg e, Nat.add_zero, ih]
      constructor
      · rintro ⟨u, v, h1, h2, h3, h4⟩
        exact ⟨u, v, h1, by omega, h3, h4⟩
      · rintro ⟨u, v, h1, h2, h3, h4⟩
        refine ⟨u, v, h1, ?_, h3, h4⟩
        by_cases e2 : v = m
        · subst e2; exact absurd h4 e
        · omega

theorem sc_lt (hg : ∀ v w, w ∈ g v → w < n) {u v : Nat} (hu : u < n) (h : Path g u v) : v < n := h.stays (P := (· < n)) (fun a _ b hb => hg a b hb) hu

theorem big_iff (hg : ∀ v w, w ∈ g v → w < n) (hK : KosRes g n kc k) {u a : Nat} (hu : u < n) (ha : kc u = a) : Big g u ↔ 1 < cntK kc n a := by
  rw [cntK_two]
  constructor
  · rintro ⟨v, hne, hsc⟩
    have hv : v < n := sc_lt hg hu hsc.1
    have e : kc v = a := by rw [← ha]; exact ((hK.same u v hu hv).2 hsc).symm
    rcases Nat.lt_or_ge u v with h | h
    · exact ⟨u, v, h, hv, ha, e⟩
    · exact ⟨v, u, by omega, hu, e, ha⟩
  · rintro ⟨x, y, h1, h2, h3, h4⟩
    by_cases e : x = u
    · subst e
      exact ⟨y, by omega, (hK.same x y hu h2).1 (by rw [h3, h4])⟩
    · exact ⟨x, e, (hK.same u x hu (by omega)).1 (by rw [ha, h3])⟩
end Go.Proofs.Qxb6602302a

/-
  Plain: Tarjan's algorithm: a component is closed; the rounds; the answer.
-/
import Derived.Test.Qxb6602302aTar
namespace Go.Proofs.Qxb6602302a
set_option linter.unusedVariables false

variable {g : Nat → List Nat} {n : Nat} {d low comp : Nat → Nat} {stack : List Nat} {path : List Tf} {fin : List Nat} {count c : Nat} {lowest : Int}

/-- The numbers behind the closing of the nodes X. -/
def closeOf (comp : Nat → Nat) (c : Nat) (X : List Nat) (x : Nat) : Nat := if x ∈ X then c else comp x

/-- What lowest becomes. -/
def lowestOf (lowest : Int) (size : Nat) (sm : Nat) : Int := if 1 < size ∧ (lowest < 0 ∨ (sm : Int) < lowest) then (sm : Int) else lowest

/-- THE NODE ON TOP IS DONE, AND IS THE FIRST OF ITS COMPONENT: what lies above it on the stack is that component. -/
theorem T.close {f : Tf} {B : List Tf} {S R : List Nat} {sm : Nat} (h : T g n d low comp stack (f :: B) fin count c lowest) (hi : f.i = (g f.v).length) (hlow : low f.v = d f.v) (hst : stack = S ++ f.v :: R)
    (hsm : sm ∈ S ++ [f.v]) (hsml : ∀ x, x ∈ S ++ [f.v] → sm ≤ x) :
    T g n d low (closeOf comp c (S ++ [f.v])) R B (f.v :: fin) count (c + 1) (lowestOf lowest (S.length + 1) sm) := by
  have hfs : f.v ∈ stack := h.ps f.v (by simp [tn])
  have hss := h.ss
  rw [hst, List.pairwise_append] at hss
  obtain ⟨_, hss2, hss3⟩ := hss
  have hS : ∀ x, x ∈ S → d f.v < d x := fun x hx => hss3 x hx f.v (by simp)
  have hR : ∀ x, x ∈ R → d x < d f.v := fun x hx => (List.pairwise_cons.1 hss2).1 x hx
  have hX : ∀ x, x ∈ S ++ [f.v] → d f.v ≤ d x := fun x hx => by
    rcases List.mem_append.1 hx with hx | hx
    · have := hS x hx; omega
    · simp at hx; subst hx; exact Nat.le_refl _
  have hsplit : ∀ x, x ∈ stack ↔ x ∈ S ++ [f.v] ∨ x ∈ R := fun x => by
    rw [hst]
    simp only [List.mem_append, List.mem_cons, List.not_mem_nil, or_false]
    constructor
    · rintro (h1 | h1 | h1)
      · exact .inl (.inl h1)
      · exact .inl (.inr h1)
      · exact .inr h1
    · rintro ((h1 | h1) | h1)
      · exact .inl h1
      · exact .inr (.inl h1)
      · exact .inr (.inr h1)
  have hXR : ∀ x, x ∈ S ++ [f.v] → x ∉ R := fun x h1 h2 => by
    have := hX x h1
    have := hR x h2
    omega
  have hfB : f.v ∉ tn B := by
    have := (List.nodup_append.1 h.nd).2.1
    simp only [tn, List.map_cons] at this
    exact (List.nodup_cons.1 this).1
  have hXs : ∀ x, x ∈ S ++ [f.v] → x ∈ stack := fun x hx => (hsplit x).2 (.inl hx)
  -- what lies above has been done
  have hSf : ∀ x, x ∈ S → x ∈ fin := fun x hx => by
    have hd0 := h.sd x (hXs x (by simp [hx]))
    rcases (h.met x).1 hd0 with h1 | h1
    · exact h1
    · exfalso
      simp only [tn, List.map_cons, List.mem_cons] at h1
      have := hS x hx
      rcases h1 with e | h1
      · rw [e] at this; omega
      · have := (tn_top h h1).1; omega
  -- strongly connected with v
  have hsc : ∀ x, x ∈ S ++ [f.v] → SC g f.v x := fun x hx => by
    refine ⟨h.desc f.v (by simp [tn]) x (hX x hx), ?_⟩
    obtain ⟨v, hv, _, hp⟩ := h.down (d x) x rfl (hXs x hx)
    simp only [tn, List.map_cons, List.mem_cons] at hv
    rcases hv with e | hv
    · rw [← e]; exact hp
    · exact hp.trans (tn_top h hv).2
  -- no edge leaves but to what is closed
  have hedge : ∀ x, x ∈ S ++ [f.v] → ∀ b, b ∈ g x → d b ≠ 0 ∧ (b ∈ S ++ [f.v] ∨ b ∉ stack) := fun x hx b hb => by
    have hin : b ∈ stack → d f.v ≤ d b → b ∈ S ++ [f.v] := fun h1 h2 => by
      rcases (hsplit b).1 h1 with h3 | h3
      · exact h3
      · have := hR b h3; omega
    rcases List.mem_append.1 hx with hx | hx
    · have h1 := h.ef x (hSf x hx) b hb
      refine ⟨h1, ?_⟩
      by_cases hbs : b ∈ stack
      · left
        refine hin hbs ?_
        rw [← hlow]
        refine h.cov f.v (by simp [tn]) x (hXs x (by simp [hx])) (hSf x hx) (hS x hx) (fun v' hv' hlt => ?_) b hb hbs
        simp only [tn, List.map_cons, List.mem_cons] at hv'
        rcases hv' with e | hv'
        · rw [e] at hlt; omega
        · have := (tn_top h hv').1; omega
      · exact .inr hbs
    · simp at hx
      subst hx
      have h1 := (h.ei f (by simp)).2 b
      rw [hi, List.take_of_length_le (Nat.le_refl _)] at h1
      obtain ⟨h2, h3⟩ := h1 hb
      refine ⟨h2, ?_⟩
      by_cases hbs : b ∈ stack
      · exact .inl (hin hbs (by rw [← hlow]; exact h3 hbs))
      · exact .inr hbs
  have hC : ∀ u v, Path g u v → (d u ≠ 0 ∧ u ∉ stack) → (d v ≠ 0 ∧ v ∉ stack) := fun u v p hu =>
    p.stays (P := fun x => d x ≠ 0 ∧ x ∉ stack) (fun a ha b hb => by
      obtain ⟨h1, h2, _⟩ := (h.cl a ha.1 ha.2).2 b hb
      exact ⟨h1, h2⟩) hu
  have hXC : ∀ u v, Path g u v → (u ∈ S ++ [f.v] ∨ (d u ≠ 0 ∧ u ∉ stack)) → (v ∈ S ++ [f.v] ∨ (d v ≠ 0 ∧ v ∉ stack)) := fun u v p hu =>
    p.stays (P := fun x => x ∈ S ++ [f.v] ∨ (d x ≠ 0 ∧ x ∉ stack)) (fun a ha b hb => by
      rcases ha with ha | ha
      · obtain ⟨h1, h2⟩ := hedge a ha b hb
        rcases h2 with h2 | h2
        · exact .inl h2
        · exact .inr ⟨h1, h2⟩
      · obtain ⟨h1, h2, _⟩ := (h.cl a ha.1 ha.2).2 b hb
        exact .inr ⟨h1, h2⟩) hu
  -- the component of a node of X is X
  have hcomp : ∀ x y, x ∈ S ++ [f.v] → SC g x y → y ∈ S ++ [f.v] := fun x y hx hxy => by
    rcases hXC x y hxy.1 (.inl hx) with h1 | h1
    · exact h1
    · have := hC y x hxy.2 h1
      exact absurd (hXs x hx) this.2
  have hnew : ∀ x, d x ≠ 0 → x ∉ R → x ∈ S ++ [f.v] ∨ x ∉ stack := fun x h1 h2 => by
    by_cases e : x ∈ stack
    · rcases (hsplit x).1 e with h3 | h3
      · exact .inl h3
      · exact absurd h3 h2
    · exact .inr e
  have hnX : ∀ x, x ∉ stack → x ∉ S ++ [f.v] := fun x h1 h2 => h1 (hXs x h2)
  have hcX : ∀ x, x ∈ S ++ [f.v] → closeOf comp c (S ++ [f.v]) x = c := fun x hx => if_pos hx
  have hcC : ∀ x, x ∉ stack → closeOf comp c (S ++ [f.v]) x = comp x := fun x hx => if_neg (hnX x hx)
  have hRs : ∀ x, x ∈ R → x ∈ stack := fun x hx => (hsplit x).2 (.inr hx)
  refine ⟨h.dlt, h.dinj, ?_, ?_, ?_, ?_, ?_, ?_, (List.pairwise_cons.1 h.pp).2, (List.pairwise_cons.1 h.chain).2, ?_, ?_, ?_, ?_, ?_, ?_, ?_, ?_, ?_, ?_⟩
  · intro v
    rw [h.met v]
    simp only [tn, List.map_cons, List.mem_cons]
    constructor
    · rintro (h1 | h1 | h1)
      · exact .inl (.inr h1)
      · exact .inl (.inl h1)
      · exact .inr h1
    · rintro ((h1 | h1) | h1)
      · exact .inr (.inl h1)
      · exact .inl h1
      · exact .inr (.inr h1)
  · have h1 := h.nd
    simp only [tn, List.map_cons] at h1
    exact List.perm_middle.nodup_iff.1 h1
  · have := h.cnt; simp at this ⊢; omega
  · intro v hv
    exact h.sd v (hRs v hv)
  · exact (List.pairwise_cons.1 hss2).2
  · intro v hv
    have h1 := h.ps v (by simp only [tn, List.map_cons, List.mem_cons] at hv ⊢; exact .inr hv)
    have h2 := (tn_top h hv).1
    rcases (hsplit v).1 h1 with h3 | h3
    · have := hX v h3; omega
    · exact h3
  · intro v hv
    exact h.desc v (by simp only [tn, List.map_cons, List.mem_cons] at hv ⊢; exact .inr hv)
  · intro x hx
    obtain ⟨h1, y, hy, h2, h3⟩ := h.lowE x (hRs x hx)
    refine ⟨h1, y, ?_, h2, h3⟩
    rcases (hsplit y).1 hy with h4 | h4
    · have := hX y h4
      have := hR x hx
      omega
    · exact h4
  · intro x hx hnp
    refine h.lowF x (hRs x hx) (fun hm => ?_)
    simp only [tn, List.map_cons, List.mem_cons] at hm
    rcases hm with e | hm
    · have := hR x hx
      rw [e] at this; omega
    · exact hnp hm
  · intro f' hf'
    obtain ⟨h1, h2⟩ := h.ei f' (by simp [hf'])
    exact ⟨h1, fun b hb => ⟨(h2 b hb).1, fun hs => (h2 b hb).2 (hRs b hs)⟩⟩
  · intro x hx b hb
    rcases List.mem_cons.1 hx with rfl | hx
    · exact (hedge f.v (by simp) b hb).1
    · exact h.ef x hx b hb
  · intro v hv x hx hxf hvx hnear b hb hbs
    have hxd := hR x hx
    have hxf' : x ∈ fin := by
      rcases List.mem_cons.1 hxf with e | hxf
      · rw [e] at hxd; omega
      · exact hxf
    refine h.cov v (by simp only [tn, List.map_cons, List.mem_cons] at hv ⊢; exact .inr hv) x (hRs x hx) hxf' hvx (fun v' hv2 hlt => ?_) b hb (hRs b hbs)
    simp only [tn, List.map_cons, List.mem_cons] at hv2
    rcases hv2 with e | hv2
    · rw [e]; exact hxd
    · exact hnear v' hv2 hlt
  · intro x hx hxR
    rcases hnew x hx hxR with h1 | h1
    · rw [hcX x h1]
      refine ⟨by omega, fun b hb => ?_⟩
      obtain ⟨h2, h3⟩ := hedge x h1 b hb
      rcases h3 with h3 | h3
      · exact ⟨h2, hXR b h3, by rw [hcX b h3]; exact Nat.le_refl _⟩
      · refine ⟨h2, fun hm => h3 (hRs b hm), ?_⟩
        rw [hcC b h3]
        have := (h.cl b h2 h3).1
        omega
    · rw [hcC x h1]
      obtain ⟨h2, h3⟩ := h.cl x hx h1
      refine ⟨by omega, fun b hb => ?_⟩
      obtain ⟨h4, h5, h6⟩ := h3 b hb
      exact ⟨h4, fun hm => h5 (hRs b hm), by rw [hcC b h5]; exact h6⟩
  · intro u v hu huR hv hvR
    rcases hnew u hu huR with h1 | h1 <;> rcases hnew v hv hvR with h2 | h2
    · rw [hcX u h1, hcX v h2]
      exact ⟨fun _ => (hsc u h1).symm.trans (hsc v h2), fun _ => rfl⟩
    · rw [hcX u h1, hcC v h2]
      have h3 := (h.cl v hv h2).1
      exact ⟨fun e => by omega, fun e => absurd (hcomp u v h1 e) (hnX v h2)⟩
    · rw [hcC u h1, hcX v h2]
      have h3 := (h.cl u hu h1).1
      exact ⟨fun e => by omega, fun e => absurd (hcomp v u h2 e.symm) (hnX u h1)⟩
    · rw [hcC u h1, hcC v h2]
      exact h.same u v hu h1 hv h2
  · intro j hj
    by_cases e : j = c
    · exact ⟨f.v, h.sd f.v hfs, hXR f.v (by simp), by rw [hcX f.v (by simp), e]⟩
    · obtain ⟨v, h1, h2, h3⟩ := h.surj j (by omega)
      exact ⟨v, h1, fun hm => h2 (hRs v hm), by rw [hcC v h2]; exact h3⟩
  · -- lowest
    have hbigX : ∀ x, x ∈ S ++ [f.v] → (Big g x ↔ 1 < S.length + 1) := fun x hx => by
      constructor
      · rintro ⟨y, hne, hxy⟩
        have hy := hcomp x y hx hxy
        cases S with
        | nil =>
          simp at hx hy
          exact absurd (hy.trans hx.symm) hne
        | cons s t => simp
      · intro hlen
        cases S with
        | nil => simp at hlen
        | cons s t =>
          by_cases e : x = f.v
          · refine ⟨s, fun e2 => ?_, (hsc x hx).symm.trans (hsc s (by simp))⟩
            have := hS s (by simp)
            rw [e2, e] at this; omega
          · exact ⟨f.v, fun e2 => e e2.symm, (hsc x hx).symm⟩
    have hsmX : d sm ≠ 0 ∧ sm ∉ R := ⟨h.sd sm (hXs sm hsm), hXR sm hsm⟩
    unfold lowestOf
    by_cases hsz : 1 < S.length + 1
    · rcases h.lo with ⟨h1, h2⟩ | ⟨l, h1, h2, h3, h4, h5⟩
      · rw [if_pos ⟨hsz, .inl (by omega)⟩]
        right
        refine ⟨sm, rfl, hsmX.1, hsmX.2, (hbigX sm hsm).2 hsz, fun u hu huR hbig => ?_⟩
        rcases hnew u hu huR with h6 | h6
        · exact hsml u h6
        · exact absurd hbig (h2 u hu h6)
      · by_cases hlt : (sm : Int) < lowest
        · rw [if_pos ⟨hsz, .inr hlt⟩]
          right
          refine ⟨sm, rfl, hsmX.1, hsmX.2, (hbigX sm hsm).2 hsz, fun u hu huR hbig => ?_⟩
          rcases hnew u hu huR with h6 | h6
          · exact hsml u h6
          · have := h5 u hu h6 hbig
            omega
        · rw [if_neg (fun hh => by rcases hh.2 with h6 | h6 <;> omega)]
          right
          refine ⟨l, h1, h2, fun hm => h3 (hRs l hm), h4, fun u hu huR hbig => ?_⟩
          rcases hnew u hu huR with h6 | h6
          · have := hsml u h6
            omega
          · exact h5 u hu h6 hbig
    · rw [if_neg (fun hh => hsz hh.1)]
      rcases h.lo with ⟨h1, h2⟩ | ⟨l, h1, h2, h3, h4, h5⟩
      · left
        refine ⟨h1, fun u hu huR hbig => ?_⟩
        rcases hnew u hu huR with h6 | h6
        · exact hsz ((hbigX u h6).1 hbig)
        · exact h2 u hu h6 hbig
      · right
        refine ⟨l, h1, h2, fun hm => h3 (hRs l hm), h4, fun u hu huR hbig => ?_⟩
        rcases hnew u hu huR with h6 | h6
        · exact absurd ((hbigX u h6).1 hbig) hsz
        · exact h5 u hu h6 hbig

/-- How many rounds have gone by. -/
def roundsT (g : Nat → List Nat) (fin : List Nat) (path : List Tf) : Nat := (fin.map (fun v => (g v).length + 1)).sum + (path.map (·.i)).sum
def allT (g : Nat → List Nat) (n : Nat) : Nat := ((List.range n).map (fun v => (g v).length + 1)).sum

theorem roundsT_le (h : T g n d low comp stack path fin count c lowest) : roundsT g fin path ≤ allT g n := by
  have h1 := sum_below (fun v => (g v).length + 1) (fin ++ tn path) n h.nd (fun v hv => (h.dlt v ((h.met v).2 (List.mem_append.1 hv))).1)
  have h2 : (path.map (·.i)).sum ≤ ((tn path).map (fun v => (g v).length + 1)).sum := by
    have := h.ei
    clear h1 h
    induction path with
    | nil => simp
    | cons f B ih =>
      have h3 := ih (fun f' hf' => this f' (by simp [hf']))
      have h4 := (this f (by simp)).1
      simp only [tn, List.map_cons, List.sum_cons] at h3 ⊢
      omega
  rw [List.map_append, List.sum_append] at h1
  unfold roundsT allT
  omega
theorem roundsT_adv (g : Nat → List Nat) (fin : List Nat) (f : Tf) (B : List Tf) : roundsT g fin (⟨f.v, f.i + 1⟩ :: B) = roundsT g fin (f :: B) + 1 := by
  unfold roundsT; simp; omega
theorem roundsT_push (g : Nat → List Nat) (fin : List Nat) (w : Nat) (B : List Tf) : roundsT g fin (⟨w, 0⟩ :: B) = roundsT g fin B := by
  unfold roundsT; simp
theorem roundsT_pop (g : Nat → List Nat) (fin : List Nat) (f : Tf) (B : List Tf) (hi : f.i = (g f.v).length) : roundsT g (f.v :: fin) B = roundsT g fin (f :: B) + 1 := by
  unfold roundsT; simp [hi]; omega

/-- What Tarjan's algorithm answers. -/
structure TarRes (g : Nat → List Nat) (n : Nat) (comp : Nat → Nat) (c : Nat) (lowest : Int) : Prop where
  rng : ∀ v, v < n → comp v < c
  same : ∀ u v, u < n → v < n → (comp u = comp v ↔ SC g u v)
  surj : ∀ j, j < c → ∃ v, v < n ∧ comp v = j
  edge : ∀ u, u < n → ∀ b, b ∈ g u → comp b ≤ comp u
  lo : (lowest = -1 ∧ ∀ u, u < n → ¬ Big g u) ∨ (∃ l : Nat, lowest = l ∧ l < n ∧ Big g l ∧ ∀ u, u < n → Big g u → l ≤ u)

theorem T.res (h : T g n d low comp stack [] fin count c lowest) (hall : ∀ v, v < n → d v ≠ 0) : TarRes g n comp c lowest := by
  have hs := h.empty
  subst hs
  refine ⟨fun v hv => (h.cl v (hall v hv) (by simp)).1, fun u v hu hv => h.same u v (hall u hu) (by simp) (hall v hv) (by simp), fun j hj => ?_, fun u hu b hb => ((h.cl u (hall u hu) (by simp)).2 b hb).2.2, ?_⟩
  · obtain ⟨v, h1, _, h3⟩ := h.surj j hj
    exact ⟨v, (h.dlt v h1).1, h3⟩
  · rcases h.lo with ⟨h1, h2⟩ | ⟨l, h1, h2, h3, h4, h5⟩
    · exact .inl ⟨h1, fun u hu => h2 u (hall u hu) (by simp)⟩
    · exact .inr ⟨l, h1, (h.dlt l h2).1, h4, fun u hu => h5 u (hall u hu) (by simp)⟩
end Go.Proofs.Qxb6602302a

/-
  Plain: the second search of Kosaraju's algorithm: the components.
-/
import Derived.Test.Qxb6602302aKos
namespace Go.Proofs.Qxb6602302a
set_option linter.unusedVariables false

/-- The state between two roots: the places from i on are done. -/
structure K3 (g : Nat → List Nat) (n : Nat) (order : List Nat) (i : Nat) (comp : Nat → Int) (k : Nat) : Prop where
  done : ∀ j v, i ≤ j → order[j]? = some v → 0 ≤ comp v
  rng : ∀ v, -1 ≤ comp v ∧ comp v < k
  lt : ∀ v, 0 ≤ comp v → v < n
  same : ∀ u v, 0 ≤ comp u → 0 ≤ comp v → (comp u = comp v ↔ SC g u v)
  closed : ∀ u v, 0 ≤ comp u → SC g u v → 0 ≤ comp v
  surj : ∀ c : Int, 0 ≤ c → c < k → ∃ v, v < n ∧ comp v = c

theorem K3.start (g : Nat → List Nat) (n : Nat) (order : List Nat) : K3 g n order order.length (fun _ => -1) 0 where
  done := by
    intro j v hj hv
    have := (List.getElem?_eq_some_iff.1 hv).1
    omega
  rng := fun v => by constructor <;> simp
  lt := fun v h => by simp at h
  same := fun u v h => by simp at h
  closed := fun u v h => by simp at h
  surj := fun c h1 h2 => by simp at h2; omega

/-- A root that has its component: nothing to do. -/
theorem K3.skip {g : Nat → List Nat} {n : Nat} {order : List Nat} {i : Nat} {comp : Nat → Int} {k r : Nat} (h : K3 g n order (i + 1) comp k) (hr : order[i]? = some r) (hc : 0 ≤ comp r) : K3 g n order i comp k where
  done := by
    intro j v hj hv
    by_cases e : j = i
    · subst e
      rw [hr] at hv
      cases hv
      exact hc
    · exact h.done j v (by omega) hv
  rng := h.rng
  lt := h.lt
  same := h.same
  closed := h.closed
  surj := h.surj

/-- The numbers while root r is searched: those seen in this search bear k. -/
def compOf (comp : Nat → Int) (k : Nat) (seen : List Nat) (v : Nat) : Int := if v ∈ seen then (k : Int) else comp v

/-- The state within the search of root r = order[i]: 'seen' in this search; 'work' still to be looked at. -/
structure K3in (g : Nat → List Nat) (n : Nat) (order : List Nat) (i r : Nat) (comp : Nat → Int) (k : Nat) (seen work : List Nat) : Prop where
  nd : seen.Nodup
  new : ∀ v, v ∈ seen → comp v < 0
  lt : ∀ v, v ∈ seen → v < n
  root : r ∈ seen
  back : ∀ v, v ∈ seen → PathIn g (fun x => x ∈ order.take (i + 1)) v r
  wsub : ∀ v, v ∈ work → v ∈ seen
  wlen : work.length ≤ seen.length
  full : ∀ v, v ∈ seen → v ∉ work → ∀ u, u < n → v ∈ g u → 0 ≤ compOf comp k seen u

theorem mem_upto {g : Nat → List Nat} {n : Nat} {order : List Nat} {i : Nat} {comp : Nat → Int} {k : Nat} (h : K3 g n order (i + 1) comp k) (hall : ∀ v, v < n ↔ v ∈ order) {v : Nat} (hv : v < n) (hc : comp v < 0) : v ∈ order.take (i + 1) := by
  obtain ⟨j, hj⟩ := List.mem_iff_getElem?.1 ((hall v).1 hv)
  by_cases e : j < i + 1
  · exact mem_take_of.2 ⟨j, e, hj⟩
  · have := h.done j v (by omega) hj
    omega

theorem K3in.start {g : Nat → List Nat} {n : Nat} {order : List Nat} {i : Nat} {comp : Nat → Int} {k r : Nat} (h : K3 g n order (i + 1) comp k) (hall : ∀ v, v < n ↔ v ∈ order) (hr : order[i]? = some r) (hc : comp r < 0) :
    K3in g n order i r comp k [r] [r] where
  nd := by simp
  new := by intro v hv; simp at hv; subst hv; exact hc
  lt := by intro v hv; simp at hv; subst hv; exact (hall v).2 (List.mem_iff_getElem?.2 ⟨i, hr⟩)
  root := by simp
  back := by
    intro v hv
    simp at hv
    subst hv
    exact PathIn.refl (mem_take_of.2 ⟨i, by omega, hr⟩)
  wsub := by simp
  wlen := Nat.le_refl _
  full := by intro v hv hw; exact absurd hv hw

/-- The frame within: v is off the work list, the places of its predecessors up to some point are looked at ('U': those that have been). -/
structure K3mid (g : Nat → List Nat) (n : Nat) (order : List Nat) (i r : Nat) (comp : Nat → Int) (k : Nat) (seen work : List Nat) (v : Nat) (U : Nat → Prop) : Prop where
  nd : seen.Nodup
  new : ∀ v, v ∈ seen → comp v < 0
  lt : ∀ v, v ∈ seen → v < n
  root : r ∈ seen
  back : ∀ v, v ∈ seen → PathIn g (fun x => x ∈ order.take (i + 1)) v r
  wsub : ∀ v, v ∈ work → v ∈ seen
  wlen : work.length + 1 ≤ seen.length
  cur : v ∈ seen
  full : ∀ x, x ∈ seen → x ∉ work → x ≠ v → ∀ u, u < n → x ∈ g u → 0 ≤ compOf comp k seen u
  part : ∀ u, U u → 0 ≤ compOf comp k seen u

theorem K3in.pop {g : Nat → List Nat} {n : Nat} {order : List Nat} {i r : Nat} {comp : Nat → Int} {k : Nat} {seen work : List Nat} {v : Nat} (h : K3in g n order i r comp k seen (v :: work)) : K3mid g n order i r comp k seen work v (fun _ => False) where
  nd := h.nd
  new := h.new
  lt := h.lt
  root := h.root
  back := h.back
  wsub := fun x hx => h.wsub x (by simp [hx])
  wlen := by have := h.wlen; simp at this; omega
  cur := h.wsub v (by simp)
  full := by
    intro x hx hw hne
    exact h.full x hx (by simp [hne, hw])
  part := fun u hu => hu.elim

theorem compOf_mono {comp : Nat → Int} {k : Nat} {seen : List Nat} {w u : Nat} (h : 0 ≤ compOf comp k seen u) : 0 ≤ compOf comp k (w :: seen) u := by
  unfold compOf at h ⊢
  by_cases e : u ∈ w :: seen
  · rw [if_pos e]; omega
  · rw [if_neg e]
    have e' : u ∉ seen := fun hm => e (by simp [hm])
    rw [if_neg e'] at h
    exact h

/-- A predecessor that has its number. -/
theorem K3mid.skip {g : Nat → List Nat} {n : Nat} {order : List Nat} {i r : Nat} {comp : Nat → Int} {k : Nat} {seen work : List Nat} {v : Nat} {U : Nat → Prop} (h : K3mid g n order i r comp k seen work v U) {u : Nat} (hu : 0 ≤ compOf comp k seen u) :
    K3mid g n order i r comp k seen work v (fun x => U x ∨ x = u) :=
  ⟨h.nd, h.new, h.lt, h.root, h.back, h.wsub, h.wlen, h.cur, h.full, fun x hx => by
    rcases hx with hx | rfl
    · exact h.part x hx
    · exact hu⟩

/-- A predecessor that is met: it goes onto the work list. -/
theorem K3mid.push {g : Nat → List Nat} {n : Nat} {order : List Nat} {i r : Nat} {comp : Nat → Int} {k : Nat} {seen work : List Nat} {v : Nat} {U : Nat → Prop} (h3 : K3 g n order (i + 1) comp k) (hall : ∀ v, v < n ↔ v ∈ order)
    (h : K3mid g n order i r comp k seen work v U) {u : Nat} (hun : u < n) (he : v ∈ g u) (hu : compOf comp k seen u < 0) : K3mid g n order i r comp k (u :: seen) (u :: work) v (fun x => U x ∨ x = u) := by
  have hns : u ∉ seen := fun hm => by
    unfold compOf at hu
    rw [if_pos hm] at hu
    omega
  have hcu : comp u < 0 := by
    unfold compOf at hu
    rw [if_neg hns] at hu
    exact hu
  refine ⟨List.nodup_cons.2 ⟨hns, h.nd⟩, ?_, ?_, by simp [h.root], ?_, ?_, by have := h.wlen; simp; omega, by simp [h.cur], ?_, ?_⟩
  · intro x hx
    rcases List.mem_cons.1 hx with rfl | hx
    · exact hcu
    · exact h.new x hx
  · intro x hx
    rcases List.mem_cons.1 hx with rfl | hx
    · exact hun
    · exact h.lt x hx
  · intro x hx
    rcases List.mem_cons.1 hx with rfl | hx
    · exact PathIn.head (mem_upto h3 hall hun hcu) he (h.back v h.cur)
    · exact h.back x hx
  · intro x hx
    rcases List.mem_cons.1 hx with rfl | hx
    · simp
    · simp [h.wsub x hx]
  · intro x hx hw hne y hy hxy
    have hxu : x ≠ u := fun e => hw (by simp [e])
    have hxs : x ∈ seen := by
      rcases List.mem_cons.1 hx with e | hx
      · exact absurd e hxu
      · exact hx
    exact compOf_mono (h.full x hxs (fun hm => hw (by simp [hm])) hne y hy hxy)
  · intro x hx
    rcases hx with hx | rfl
    · exact compOf_mono (h.part x hx)
    · unfold compOf; rw [if_pos (by simp)]; omega

/-- All predecessors looked at. -/
theorem K3mid.done {g : Nat → List Nat} {n : Nat} {order : List Nat} {i r : Nat} {comp : Nat → Int} {k : Nat} {seen work : List Nat} {v : Nat} {U : Nat → Prop} (h : K3mid g n order i r comp k seen work v U) (hU : ∀ u, u < n → v ∈ g u → U u) :
    K3in g n order i r comp k seen work where
  nd := h.nd
  new := h.new
  lt := h.lt
  root := h.root
  back := h.back
  wsub := h.wsub
  wlen := by have := h.wlen; omega
  full := by
    intro x hx hw u hu hxu
    by_cases e : x = v
    · subst e
      exact h.part u (hU u hu hxu)
    · exact h.full x hx hw e u hu hxu

/-- The work list is empty: the component of r is found. -/
theorem K3in.finish {g : Nat → List Nat} {n : Nat} {order : List Nat} {i r : Nat} {comp : Nat → Int} {k : Nat} {seen : List Nat} (h3 : K3 g n order (i + 1) comp k) (hall : ∀ v, v < n ↔ v ∈ order) (hnd : order.Nodup) (hfin : Fin g order)
    (hg : ∀ u, n ≤ u → g u = []) (hr : order[i]? = some r) (hc : comp r < 0) (h : K3in g n order i r comp k seen []) : K3 g n order i (compOf comp k seen) (k + 1) := by
  have hrn : r < n := (hall r).2 (List.mem_iff_getElem?.2 ⟨i, hr⟩)
  -- whatever is seen is strongly connected with r
  have hsc : ∀ v, v ∈ seen → SC g v r := fun v hv => ⟨(h.back v hv).path, hfin.back hnd hr (h.back v hv)⟩
  -- no node strongly connected with r had a number
  have hfree : ∀ v, SC g v r → comp v < 0 := fun v hv => by
    by_cases e : 0 ≤ comp v
    · have := h3.closed v r e hv
      omega
    · omega
  -- and all of them are seen
  have hin : ∀ v, SC g v r → v ∈ seen := by
    intro v hv
    obtain ⟨⟨m, hm⟩, hb⟩ := hv
    induction m generalizing v with
    | zero => cases hm; exact h.root
    | succ m ih =>
      obtain ⟨w, hw, hm⟩ := hm
      have hwr : SC g w r := ⟨⟨m, hm⟩, hb.last hw⟩
      have hws := ih w (hb.last hw) hm
      have hvn : v < n := by
        by_cases e : v < n
        · exact e
        · rw [hg v (by omega)] at hw; simp at hw
      have h5 := h.full w hws (by simp) v hvn hw
      have h6 := hfree v ⟨⟨m + 1, w, hw, hm⟩, hb⟩
      unfold compOf at h5
      split at h5
      · assumption
      · omega
  have hval : ∀ v, compOf comp k seen v = if v ∈ seen then (k : Int) else comp v := fun v => rfl
  refine ⟨?_, ?_, ?_, ?_, ?_, ?_⟩
  · intro j v hj hv
    by_cases e : j = i
    · subst e
      rw [hr] at hv
      cases hv
      rw [hval, if_pos h.root]; omega
    · have := h3.done j v (by omega) hv
      rw [hval]
      split
      · omega
      · exact this
  · intro v
    have := h3.rng v
    rw [hval]
    split
    · omega
    · omega
  · intro v hv
    rw [hval] at hv
    split at hv
    · exact h.lt v ‹_›
    · exact h3.lt v hv
  · intro u v hu hv
    rw [hval] at hu hv ⊢
    rw [hval]
    by_cases eu : u ∈ seen <;> by_cases ev : v ∈ seen
    · rw [if_pos eu, if_pos ev]
      exact ⟨fun _ => (hsc u eu).trans (hsc v ev).symm, fun _ => rfl⟩
    · rw [if_pos eu, if_neg ev]
      rw [if_neg ev] at hv
      constructor
      · intro e
        have := (h3.rng v).2
        omega
      · intro e
        exact absurd (hin v (e.symm.trans (hsc u eu))) ev
    · rw [if_neg eu, if_pos ev]
      rw [if_neg eu] at hu
      constructor
      · intro e
        have := (h3.rng u).2
        omega
      · intro e
        exact absurd (hin u (e.trans (hsc v ev))) eu
    · rw [if_neg eu, if_neg ev]
      rw [if_neg eu] at hu
      rw [if_neg ev] at hv
      exact h3.same u v hu hv
  · intro u v hu huv
    rw [hval] at hu ⊢
    by_cases ev : v ∈ seen
    · rw [if_pos ev]; omega
    · rw [if_neg ev]
      by_cases eu : u ∈ seen
      · exact absurd (hin v (huv.symm.trans (hsc u eu))) ev
      · rw [if_neg eu] at hu
        exact h3.closed u v hu huv
  · intro c h0 h1
    by_cases e : c = k
    · exact ⟨r, hrn, by rw [hval, if_pos h.root]; omega⟩
    · obtain ⟨v, hv, hcv⟩ := h3.surj c h0 (by omega)
      refine ⟨v, hv, ?_⟩
      rw [hval, if_neg (fun hm => by have := h.new v hm; omega)]
      exact hcv

/-- What Kosaraju's algorithm answers. -/
structure KosRes (g : Nat → List Nat) (n : Nat) (kc : Nat → Int) (k : Nat) : Prop where
  rng : ∀ v, v < n → 0 ≤ kc v ∧ kc v < k
  same : ∀ u v, u < n → v < n → (kc u = kc v ↔ SC g u v)
  surj : ∀ c : Int, 0 ≤ c → c < k → ∃ v, v < n ∧ kc v = c

theorem K3.res {g : Nat → List Nat} {n : Nat} {order : List Nat} {comp : Nat → Int} {k : Nat} (h : K3 g n order 0 comp k) (hall : ∀ v, v < n ↔ v ∈ order) : KosRes g n comp k := by
  have h0 : ∀ v, v < n → 0 ≤ comp v := fun v hv => by
    obtain ⟨j, hj⟩ := List.mem_iff_getElem?.1 ((hall v).1 hv)
    exact h.done j v (Nat.zero_le _) hj
  exact ⟨fun v hv => ⟨h0 v hv, (h.rng v).2⟩, fun u v hu hv => h.same u v (h0 u hu) (h0 v hv), h.surj⟩

theorem K3.k_le {g : Nat → List Nat} {n : Nat} {order : List Nat} {i : Nat} {comp : Nat → Int} {k : Nat} (h : K3 g n order i comp k) : k ≤ n := by
  have hex : ∃ f : Nat → Nat, ∀ c, c < k → f c < n ∧ comp (f c) = c := by
    classical
    exact ⟨fun c => if hc : c < k then Classical.choose (h.surj c (by omega) (by omega)) else 0, fun c hc => by
      simp only [dif_pos hc]
      exact Classical.choose_spec (h.surj c (by omega) (by omega))⟩
  obtain ⟨f, hf⟩ := hex
  have hl := len_below ((List.range k).map f) n (by
    rw [List.nodup_iff_pairwise_ne, List.pairwise_map]
    refine List.Pairwise.imp_of_mem ?_ (List.nodup_iff_pairwise_ne.1 (List.nodup_range (n := k)))
    intro a b ha hb hab e
    have h1 := (hf a (List.mem_range.1 ha)).2
    have h2 := (hf b (List.mem_range.1 hb)).2
    rw [e] at h1
    omega) (by
    intro x hx
    obtain ⟨c, hc, rfl⟩ := List.mem_map.1 hx
    exact (hf c (List.mem_range.1 hc)).1)
  simpa using hl
end Go.Proofs.Qxb6602302a

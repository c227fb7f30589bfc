/-
  Plain: Tarjan's steps in the form in which the walk meets them.
-/
import Derived.Test.Qxb6602302aTar2
namespace Go.Proofs.Qxb6602302a
set_option linter.unusedVariables false
variable {g : Nat → List Nat} {n : Nat} {d low comp : Nat → Nat} {stack : List Nat} {path : List Tf} {fin : List Nat} {count c : Nat} {lowest : Int}

theorem T.stack_le (h : T g n d low comp stack path fin count c lowest) : stack.length ≤ n :=
  len_below stack n (h.ss.imp fun {a b} hab => by intro e; subst e; omega) (fun v hv => (h.dlt v (h.sd v hv)).1)
theorem T.path_le (h : T g n d low comp stack path fin count c lowest) : path.length ≤ n := by
  have := h.count_le
  have := h.cnt
  omega
theorem T.c_le (h : T g n d low comp stack path fin count c lowest) : c ≤ n := by
  have hx : ∃ f : Nat → Nat, ∀ j, j < c → f j < n ∧ comp (f j) = j := by
    refine ⟨fun j => if hj : j < c then Classical.choose (h.surj j hj) else 0, fun j hj => ?_⟩
    simp only [dif_pos hj]
    have := Classical.choose_spec (h.surj j hj)
    exact ⟨(h.dlt _ this.1).1, this.2.2⟩
  obtain ⟨f, hf⟩ := hx
  have h1 := len_below ((List.range c).map f) n (by
    rw [List.nodup_iff_pairwise_ne, List.pairwise_map]
    refine (List.nodup_iff_pairwise_ne.1 List.nodup_range).imp_of_mem fun {a b} ha hb hab e => hab ?_
    rw [← (hf a (List.mem_range.1 ha)).2, ← (hf b (List.mem_range.1 hb)).2, e]) (by
    intro v hv
    rw [List.mem_map] at hv
    obtain ⟨j, hj, rfl⟩ := hv
    exact (hf j (List.mem_range.1 hj)).1)
  simpa using h1

theorem T.child {f : Tf} {B : List Tf} {x : Nat} (h : T g n d low comp stack (f :: B) fin count c lowest) (hi : (g f.v)[f.i]? = some x) (hx : d x = 0) (hxn : x < n) :
    T g n (upd d x (count + 1)) (upd low x (count + 1)) comp (x :: stack) (⟨x, 0⟩ :: ⟨f.v, f.i + 1⟩ :: B) fin (count + 1) c lowest := by
  have hlt : f.i < (g f.v).length := (List.getElem?_eq_some_iff.1 hi).1
  have hedge : Path g f.v x := Path.edge (List.mem_iff_getElem?.2 ⟨f.i, hi⟩)
  refine h.push hxn hx (⟨f.v, f.i + 1⟩ :: B) (by simp [tn]) (fun v hv => ?_) (fun f' hf' => ?_)
  · simp only [tn, List.map_cons, List.mem_cons, List.mem_map] at hv
    rcases hv with rfl | ⟨y, hy, rfl⟩
    · exact hedge
    · exact ((List.pairwise_cons.1 h.chain).1 y hy).trans hedge
  · rcases List.mem_cons.1 hf' with rfl | hf'
    · refine ⟨by simp; omega, fun b hb => ?_⟩
      simp only at hb
      rw [List.take_add_one, hi] at hb
      simp only [Option.toList_some, List.mem_append, List.mem_singleton] at hb
      rcases hb with hb | hb
      · exact .inr ⟨f, by simp, rfl, hb⟩
      · exact .inl hb
    · exact ⟨(h.ei f' (by simp [hf'])).1, fun b hb => .inr ⟨f', by simp [hf'], rfl, hb⟩⟩

theorem upd_self (f : Nat → Nat) (v : Nat) : upd f v (f v) = f := by
  funext x
  unfold upd
  by_cases e : x = v <;> simp [e]

theorem T.skipC {f : Tf} {B : List Tf} {x : Nat} (h : T g n d low comp stack (f :: B) fin count c lowest) (hi : (g f.v)[f.i]? = some x) (hx : d x ≠ 0) (hxs : x ∉ stack) :
    T g n d low comp stack (⟨f.v, f.i + 1⟩ :: B) fin count c lowest := by
  have := h.skip hi hx (low f.v) (fun h' => absurd h' hxs) (fun _ => rfl)
  rwa [upd_self] at this

theorem T.skipO {f : Tf} {B : List Tf} {x : Nat} (h : T g n d low comp stack (f :: B) fin count c lowest) (hi : (g f.v)[f.i]? = some x) (hx : d x ≠ 0) (hxs : x ∈ stack) :
    T g n d (upd low f.v (min (low f.v) (d x))) comp stack (⟨f.v, f.i + 1⟩ :: B) fin count c lowest :=
  h.skip hi hx _ (fun _ => rfl) (fun h' => absurd hxs h')

theorem T.pop0 {f : Tf} (h : T g n d low comp stack [f] fin count c lowest) (hi : f.i = (g f.v).length) (hlow : low f.v ≠ d f.v) : T g n d low comp stack [] (f.v :: fin) count c lowest := h.pop hi hlow _ rfl

theorem T.popP {f p : Tf} {B : List Tf} (h : T g n d low comp stack (f :: p :: B) fin count c lowest) (hi : f.i = (g f.v).length) (hlow : low f.v ≠ d f.v) : T g n d (upd low p.v (min (low p.v) (low f.v))) comp stack (p :: B) (f.v :: fin) count c lowest := h.pop hi hlow _ rfl

theorem T.keepLow {f p : Tf} {B : List Tf} (h : T g n d low comp stack (f :: p :: B) fin count c lowest) (hlow : low f.v = d f.v) : upd low p.v (min (low p.v) (low f.v)) = low := by
  have h1 := (h.lowE p.v (h.ps p.v (by simp [tn]))).1
  have h2 := (List.pairwise_cons.1 h.pp).1 p (by simp)
  have e : min (low p.v) (low f.v) = low p.v := Nat.min_eq_left (by omega)
  rw [e, upd_self]

theorem T.split {f : Tf} {B : List Tf} (h : T g n d low comp stack (f :: B) fin count c lowest) : ∃ S R, stack = S ++ f.v :: R ∧ stack.Nodup := by
  obtain ⟨S, R, e⟩ := List.append_of_mem (h.ps f.v (by simp [tn]))
  exact ⟨S, R, e, h.ss.imp fun {a b} hab => by intro e; subst e; omega⟩

theorem close_snoc (comp : Nat → Nat) (c : Nat) (S : List Nat) (y : Nat) : upd (closeOf comp c S) y c = closeOf comp c (S ++ [y]) := by
  funext x
  unfold upd closeOf
  by_cases e : x = y
  · simp [e]
  · simp [e]
theorem close_nil (comp : Nat → Nat) (c : Nat) : closeOf comp c [] = comp := by
  funext x
  simp [closeOf]

/-- The popping loop: S1 popped, S2 to come, v the last. -/
structure Pop (S1 S2 : List Nat) (v sm : Nat) : Prop where
  mem : sm = v ∨ sm ∈ S1
  lev : sm ≤ v
  le : ∀ x, x ∈ S1 → sm ≤ x
theorem Pop.start (S : List Nat) (v : Nat) : Pop [] S v v := ⟨.inl rfl, Nat.le_refl _, by simp⟩
theorem Pop.step {S1 S2 : List Nat} {v sm y : Nat} (h : Pop S1 (y :: S2) v sm) : Pop (S1 ++ [y]) S2 v (min sm y) := by
  refine ⟨?_, by have := h.lev; omega, fun x hx => ?_⟩
  · by_cases e : sm ≤ y
    · rw [Nat.min_eq_left e]
      rcases h.mem with h | h
      · exact .inl h
      · exact .inr (by simp [h])
    · rw [Nat.min_eq_right (by omega)]; exact .inr (by simp)
  · rcases List.mem_append.1 hx with hx | hx
    · have := h.le x hx; omega
    · simp at hx; subst hx; omega
theorem Pop.last {S1 : List Nat} {v sm : Nat} (h : Pop S1 [] v sm) : min sm v = sm ∧ sm ∈ S1 ++ [v] ∧ ∀ x, x ∈ S1 ++ [v] → sm ≤ x := by
  refine ⟨Nat.min_eq_left h.lev, ?_, fun x hx => ?_⟩
  · rcases h.mem with h | h <;> simp [h]
  · rcases List.mem_append.1 hx with hx | hx
    · exact h.le x hx
    · simp at hx; subst hx; exact h.lev
end Go.Proofs.Qxb6602302a

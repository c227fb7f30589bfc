/-
  Plain: Tarjan's algorithm, its search kept on a stack: what holds between two rounds.
-/
import Derived.Test.Qxb6602302aGraph
namespace Go.Proofs.Qxb6602302a
set_option linter.unusedVariables false

/-- A frame: its node and the next edge. -/
structure Tf where
  v : Nat
  i : Nat
def tn (p : List Tf) : List Nat := p.map (·.v)

/-- A component of two nodes or more. -/
def Big (g : Nat → List Nat) (u : Nat) : Prop := ∃ v, v ≠ u ∧ SC g u v

/-- The state of the search. 'stack' and 'path' with their tops first; 'fin' (a ghost): the nodes that are done. -/
structure T (g : Nat → List Nat) (n : Nat) (d low : Nat → Nat) (comp : Nat → Nat) (stack : List Nat) (path : List Tf) (fin : List Nat) (count c : Nat) (lowest : Int) : Prop where
  dlt : ∀ v, d v ≠ 0 → v < n ∧ d v ≤ count
  dinj : ∀ u v, d u ≠ 0 → d u = d v → u = v
  met : ∀ v, d v ≠ 0 ↔ v ∈ fin ∨ v ∈ tn path
  nd : (fin ++ tn path).Nodup
  cnt : count = fin.length + path.length
  sd : ∀ v, v ∈ stack → d v ≠ 0
  ss : stack.Pairwise (fun x y => d y < d x)
  ps : ∀ v, v ∈ tn path → v ∈ stack
  pp : path.Pairwise (fun x y => d y.v < d x.v)
  chain : path.Pairwise (fun x y => Path g y.v x.v)
  desc : ∀ v, v ∈ tn path → ∀ x, d v ≤ d x → Path g v x
  lowE : ∀ x, x ∈ stack → low x ≤ d x ∧ ∃ y, y ∈ stack ∧ d y = low x ∧ Path g x y
  lowF : ∀ x, x ∈ stack → x ∉ tn path → low x < d x
  ei : ∀ f, f ∈ path → f.i ≤ (g f.v).length ∧ ∀ b, b ∈ (g f.v).take f.i → d b ≠ 0 ∧ (b ∈ stack → low f.v ≤ d b)
  ef : ∀ x, x ∈ fin → ∀ b, b ∈ g x → d b ≠ 0
  cov : ∀ v, v ∈ tn path → ∀ x, x ∈ stack → x ∈ fin → d v < d x → (∀ v', v' ∈ tn path → d v < d v' → d x < d v') → ∀ b, b ∈ g x → b ∈ stack → low v ≤ d b
  cl : ∀ x, d x ≠ 0 → x ∉ stack → comp x < c ∧ ∀ b, b ∈ g x → d b ≠ 0 ∧ b ∉ stack ∧ comp b ≤ comp x
  same : ∀ u v, d u ≠ 0 → u ∉ stack → d v ≠ 0 → v ∉ stack → (comp u = comp v ↔ SC g u v)
  surj : ∀ j, j < c → ∃ v, d v ≠ 0 ∧ v ∉ stack ∧ comp v = j
  lo : (lowest = -1 ∧ ∀ u, d u ≠ 0 → u ∉ stack → ¬ Big g u) ∨ (∃ l : Nat, lowest = l ∧ d l ≠ 0 ∧ l ∉ stack ∧ Big g l ∧ ∀ u, d u ≠ 0 → u ∉ stack → Big g u → l ≤ u)

theorem T.start (g : Nat → List Nat) (n : Nat) (low comp : Nat → Nat) : T g n (fun _ => 0) low comp [] [] [] 0 0 (-1) where
  dlt := by simp
  dinj := by simp
  met := by simp [tn]
  nd := by simp [tn]
  cnt := rfl
  sd := by simp
  ss := List.Pairwise.nil
  ps := by simp [tn]
  pp := List.Pairwise.nil
  chain := List.Pairwise.nil
  desc := by simp [tn]
  lowE := by simp
  lowF := by simp
  ei := by simp
  ef := by simp
  cov := by simp [tn]
  cl := by simp
  same := by simp
  surj := by simp
  lo := .inl ⟨rfl, by simp⟩

variable {g : Nat → List Nat} {n : Nat} {d low comp : Nat → Nat} {stack : List Nat} {path : List Tf} {fin : List Nat} {count c : Nat} {lowest : Int}

theorem T.count_le (h : T g n d low comp stack path fin count c lowest) : count ≤ n := by
  have := len_below (fin ++ tn path) n h.nd (fun v hv => (h.dlt v ((h.met v).2 (List.mem_append.1 hv))).1)
  rw [h.cnt]
  simpa [tn] using this

theorem T.fin_not_path (h : T g n d low comp stack path fin count c lowest) {x : Nat} (hx : x ∈ fin) : x ∉ tn path := fun hp =>
  (List.nodup_append.1 h.nd).2.2 x hx x hp rfl

/-- A function turned at one place. -/
def upd {α : Type} (f : Nat → α) (w : Nat) (a : α) (x : Nat) : α := if x = w then a else f x
theorem upd_same {α : Type} (f : Nat → α) (w : Nat) (a : α) : upd f w a w = a := if_pos rfl
theorem upd_other {α : Type} (f : Nat → α) {w x : Nat} (a : α) (h : x ≠ w) : upd f w a x = f x := if_neg h

/-- A NODE IS MET: it goes onto both stacks. 'path'': the frames below it, of which one may have gone on by one edge (the one to w). -/
theorem T.push (h : T g n d low comp stack path fin count c lowest) {w : Nat} (hwn : w < n) (hw : d w = 0) (path' : List Tf) (hsame : tn path' = tn path) (hp : ∀ v, v ∈ tn path → Path g v w)
    (hadv : ∀ f', f' ∈ path' → f'.i ≤ (g f'.v).length ∧ ∀ b, b ∈ (g f'.v).take f'.i → b = w ∨ ∃ f, f ∈ path ∧ f.v = f'.v ∧ b ∈ (g f.v).take f.i) :
    T g n (upd d w (count + 1)) (upd low w (count + 1)) comp (w :: stack) (⟨w, 0⟩ :: path') fin (count + 1) c lowest := by
  have hns : w ∉ stack := fun hm => h.sd w hm hw
  have hne : ∀ x, d x ≠ 0 → x ≠ w := fun x hx e => hx (e ▸ hw)
  have hd : ∀ x, d x ≠ 0 → upd d w (count + 1) x = d x := fun x hx => upd_other d _ (hne x hx)
  have hl : ∀ x, d x ≠ 0 → upd low w (count + 1) x = low x := fun x hx => upd_other low _ (hne x hx)
  have hdw : upd d w (count + 1) w = count + 1 := upd_same d w _
  have hpath : ∀ v, v ∈ tn path → d v ≠ 0 := fun v hv => h.sd v (h.ps v hv)
  have hfin : ∀ v, v ∈ fin → d v ≠ 0 := fun v hv => (h.met v).2 (.inl hv)
  have hlen : path'.length = path.length := by
    have := congrArg List.length hsame
    simpa [tn] using this
  have hpos : ∀ x, upd d w (count + 1) x ≠ 0 ↔ d x ≠ 0 ∨ x = w := fun x => by
    by_cases e : x = w
    · subst e; rw [hdw]; simp
    · rw [upd_other d _ e]; simp [e]
  have htn : tn (⟨w, 0⟩ :: path') = w :: tn path := by simp only [tn, List.map_cons] at hsame ⊢; rw [hsame]
  have hpw : ∀ (R : Nat → Nat → Prop), path.Pairwise (fun x y => R x.v y.v) → path'.Pairwise (fun x y => R x.v y.v) := fun R hR => by
    have h1 : (tn path).Pairwise R := by unfold tn; rw [List.pairwise_map]; exact hR
    rw [← hsame] at h1
    unfold tn at h1
    rw [List.pairwise_map] at h1
    exact h1
  refine ⟨?_, ?_, ?_, ?_, ?_, ?_, ?_, ?_, ?_, ?_, ?_, ?_, ?_, ?_, ?_, ?_, ?_, ?_, ?_, ?_⟩
  · intro v hv
    by_cases e : v = w
    · subst e; rw [hdw]; exact ⟨hwn, Nat.le_refl _⟩
    · rw [upd_other d _ e] at hv ⊢
      have := h.dlt v hv
      exact ⟨this.1, by omega⟩
  · intro u v hu huv
    by_cases eu : u = w
    · by_cases ev : v = w
      · rw [eu, ev]
      · rw [eu, hdw, upd_other d _ ev] at huv
        have := (h.dlt v (by omega)).2
        omega
    · rw [upd_other d _ eu] at hu huv
      by_cases ev : v = w
      · rw [ev, hdw] at huv
        have := (h.dlt u hu).2
        omega
      · rw [upd_other d _ ev] at huv
        exact h.dinj u v hu huv
  · intro v
    rw [hpos, htn, h.met v]
    simp only [List.mem_cons]
    constructor
    · rintro ((h1 | h1) | h1)
      · exact .inl h1
      · exact .inr (.inr h1)
      · exact .inr (.inl h1)
    · rintro (h1 | h1 | h1)
      · exact .inl (.inl h1)
      · exact .inr h1
      · exact .inl (.inr h1)
  · rw [htn]
    have h1 : w ∉ fin ++ tn path := fun hm => (h.met w).2 (List.mem_append.1 hm) hw
    exact List.perm_middle.symm.nodup_iff.1 (List.nodup_cons.2 ⟨h1, h.nd⟩)
  · rw [h.cnt]; simp [hlen]; omega
  · intro v hv
    rw [hpos]
    rcases List.mem_cons.1 hv with rfl | hv
    · exact .inr rfl
    · exact .inl (h.sd v hv)
  · refine List.pairwise_cons.2 ⟨fun x hx => ?_, ?_⟩
    · rw [hdw, hd x (h.sd x hx)]
      have := (h.dlt x (h.sd x hx)).2
      omega
    · refine List.Pairwise.imp_of_mem ?_ h.ss
      intro x y hx hy hxy
      rw [hd x (h.sd x hx), hd y (h.sd y hy)]
      exact hxy
  · intro v hv
    rw [htn] at hv
    rcases List.mem_cons.1 hv with rfl | hv
    · simp
    · simp [h.ps v hv]
  · refine List.pairwise_cons.2 ⟨fun f hf => ?_, ?_⟩
    · have hm : f.v ∈ tn path := by rw [← hsame]; exact List.mem_map.2 ⟨f, hf, rfl⟩
      show upd d w (count + 1) f.v < upd d w (count + 1) w
      rw [hdw, hd _ (hpath _ hm)]
      have := (h.dlt _ (hpath _ hm)).2
      omega
    · refine List.Pairwise.imp_of_mem ?_ (hpw (fun a b => d b < d a) h.pp)
      intro x y hx hy hxy
      have hx' : x.v ∈ tn path := by rw [← hsame]; exact List.mem_map.2 ⟨x, hx, rfl⟩
      have hy' : y.v ∈ tn path := by rw [← hsame]; exact List.mem_map.2 ⟨y, hy, rfl⟩
      rw [hd _ (hpath _ hx'), hd _ (hpath _ hy')]
      exact hxy
  · refine List.pairwise_cons.2 ⟨fun f hf => ?_, hpw (fun a b => Path g b a) h.chain⟩
    have hm : f.v ∈ tn path := by rw [← hsame]; exact List.mem_map.2 ⟨f, hf, rfl⟩
    exact hp _ hm
  · intro v hv x hvx
    rw [htn] at hv
    rcases List.mem_cons.1 hv with rfl | hv
    · rw [hdw] at hvx
      by_cases e : x = v
      · subst e; exact Path.refl g _
      · rw [upd_other d _ e] at hvx
        have := (h.dlt x (by omega)).2
        omega
    · rw [hd _ (hpath v hv)] at hvx
      by_cases e : x = w
      · rw [e]; exact hp v hv
      · rw [upd_other d _ e] at hvx
        exact h.desc v hv x hvx
  · intro x hx
    rcases List.mem_cons.1 hx with rfl | hx
    · rw [hdw, upd_same]
      exact ⟨Nat.le_refl _, x, by simp, hdw, Path.refl g _⟩
    · have hx0 := h.sd x hx
      rw [hd x hx0, hl x hx0]
      obtain ⟨h1, y, hy, h2, h3⟩ := h.lowE x hx
      exact ⟨h1, y, by simp [hy], by rw [hd y (h.sd y hy)]; exact h2, h3⟩
  · intro x hx hnp
    rw [htn] at hnp
    rcases List.mem_cons.1 hx with rfl | hx
    · exact absurd (by simp) hnp
    · have hx0 := h.sd x hx
      rw [hd x hx0, hl x hx0]
      exact h.lowF x hx (fun hm => hnp (by simp [hm]))
  · intro f hf
    rcases List.mem_cons.1 hf with rfl | hf
    · exact ⟨Nat.zero_le _, by simp⟩
    · obtain ⟨h1, h2⟩ := hadv f hf
      have hm : f.v ∈ tn path := by rw [← hsame]; exact List.mem_map.2 ⟨f, hf, rfl⟩
      refine ⟨h1, fun b hb => ?_⟩
      rcases h2 b hb with rfl | ⟨f0, hf0, hv, hb0⟩
      · refine ⟨by rw [hdw]; omega, fun _ => ?_⟩
        rw [hdw, hl _ (hpath _ hm)]
        have h3 := (h.lowE _ (h.ps _ hm)).1
        have h4 := (h.dlt _ (hpath _ hm)).2
        omega
      · obtain ⟨h3, h4⟩ := (h.ei f0 hf0).2 b hb0
        refine ⟨(hpos b).2 (.inl h3), fun hbs => ?_⟩
        have hbw := hne b h3
        rcases List.mem_cons.1 hbs with e | hbs
        · exact absurd e hbw
        · rw [hd b h3, hl _ (hpath _ hm), ← hv]
          exact h4 hbs
  · intro x hx b hb
    exact (hpos b).2 (.inl (h.ef x hx b hb))
  · intro v hv x hx hxf hvx hnear b hb hbs
    have hx0 := hfin x hxf
    rw [htn] at hv hnear
    have hb0 := h.ef x hxf b hb
    have hbs' : b ∈ stack := by
      rcases List.mem_cons.1 hbs with e | hbs
      · exact absurd e (hne b hb0)
      · exact hbs
    have hxs' : x ∈ stack := by
      rcases List.mem_cons.1 hx with e | hx
      · exact absurd e (hne x hx0)
      · exact hx
    rcases List.mem_cons.1 hv with rfl | hv
    · rw [hdw, hd x hx0] at hvx
      have := (h.dlt x hx0).2
      omega
    · rw [hd _ (hpath v hv), hd x hx0] at hvx
      rw [hl _ (hpath v hv), hd b hb0]
      refine h.cov v hv x hxs' hxf hvx (fun v' hv' hlt => ?_) b hb hbs'
      have := hnear v' (by simp [hv']) (by rw [hd _ (hpath v hv), hd _ (hpath v' hv')]; exact hlt)
      rwa [hd x hx0, hd _ (hpath v' hv')] at this
  · intro x hx hxs
    have hxw : x ≠ w := fun e => hxs (by simp [e])
    rw [upd_other d _ hxw] at hx
    obtain ⟨h1, h2⟩ := h.cl x hx (fun hm => hxs (by simp [hm]))
    refine ⟨h1, fun b hb => ?_⟩
    obtain ⟨h3, h4, h5⟩ := h2 b hb
    exact ⟨(hpos b).2 (.inl h3), fun hm => by
      rcases List.mem_cons.1 hm with e | hm
      · exact hne b h3 e
      · exact h4 hm, h5⟩
  · intro u v hu hus hv hvs
    have huw : u ≠ w := fun e => hus (by simp [e])
    have hvw : v ≠ w := fun e => hvs (by simp [e])
    rw [upd_other d _ huw] at hu
    rw [upd_other d _ hvw] at hv
    exact h.same u v hu (fun hm => hus (by simp [hm])) hv (fun hm => hvs (by simp [hm]))
  · intro j hj
    obtain ⟨v, h1, h2, h3⟩ := h.surj j hj
    exact ⟨v, (hpos v).2 (.inl h1), fun hm => by
      rcases List.mem_cons.1 hm with e | hm
      · exact hne v h1 e
      · exact h2 hm, h3⟩
  · have hold : ∀ u, upd d w (count + 1) u ≠ 0 → u ∉ w :: stack → d u ≠ 0 ∧ u ∉ stack := fun u h1 h2 => by
      have huw : u ≠ w := fun e => h2 (by simp [e])
      rw [upd_other d _ huw] at h1
      exact ⟨h1, fun hm => h2 (by simp [hm])⟩
    rcases h.lo with ⟨h1, h2⟩ | ⟨l, h1, h2, h3, h4, h5⟩
    · exact .inl ⟨h1, fun u hu hus => h2 u (hold u hu hus).1 (hold u hu hus).2⟩
    · exact .inr ⟨l, h1, (hpos l).2 (.inl h2), fun hm => by
        rcases List.mem_cons.1 hm with e | hm
        · exact hne l h2 e
        · exact h3 hm, h4, fun u hu hus => h5 u (hold u hu hus).1 (hold u hu hus).2⟩

/-- AN EDGE TO A NODE THAT WAS MET: the frame on top goes on; where that node is open, low is brought down. -/
theorem T.skip {f : Tf} {B : List Tf} (h : T g n d low comp stack (f :: B) fin count c lowest) {w : Nat} (hi : (g f.v)[f.i]? = some w) (hw : d w ≠ 0) (lv : Nat)
    (hop : w ∈ stack → lv = min (low f.v) (d w)) (hcl : w ∉ stack → lv = low f.v) :
    T g n d (upd low f.v lv) comp stack (⟨f.v, f.i + 1⟩ :: B) fin count c lowest := by
  have htn : tn (⟨f.v, f.i + 1⟩ :: B) = tn (f :: B) := rfl
  have hfs : f.v ∈ stack := h.ps f.v (by simp [tn])
  have hlv : lv ≤ low f.v := by
    by_cases e : w ∈ stack
    · rw [hop e]; omega
    · rw [hcl e]; omega
  have hle : ∀ x, upd low f.v lv x ≤ low x := fun x => by
    by_cases e : x = f.v
    · rw [e, upd_same]; exact hlv
    · rw [upd_other low _ e]; exact Nat.le_refl _
  have hwf : w ∈ g f.v := List.mem_iff_getElem?.2 ⟨_, hi⟩
  have hlt : f.i < (g f.v).length := (List.getElem?_eq_some_iff.1 hi).1
  refine ⟨h.dlt, h.dinj, h.met, h.nd, h.cnt, h.sd, h.ss, h.ps, ?_, ?_, h.desc, ?_, ?_, ?_, h.ef, ?_, h.cl, h.same, h.surj, h.lo⟩
  · have := List.pairwise_cons.1 h.pp
    exact List.pairwise_cons.2 ⟨this.1, this.2⟩
  · have := List.pairwise_cons.1 h.chain
    exact List.pairwise_cons.2 ⟨this.1, this.2⟩
  · intro x hx
    obtain ⟨h1, y, hy, h2, h3⟩ := h.lowE x hx
    by_cases e : x = f.v
    · subst e
      rw [upd_same]
      refine ⟨by omega, ?_⟩
      by_cases hws : w ∈ stack
      · rw [hop hws]
        by_cases hm : low f.v ≤ d w
        · exact ⟨y, hy, by rw [h2]; omega, h3⟩
        · exact ⟨w, hws, by omega, Path.edge hwf⟩
      · rw [hcl hws]
        exact ⟨y, hy, h2, h3⟩
    · rw [upd_other low _ e]
      exact ⟨h1, y, hy, h2, h3⟩
  · intro x hx hnp
    have := h.lowF x hx hnp
    have := hle x
    omega
  · intro f' hf'
    rcases List.mem_cons.1 hf' with rfl | hf'
    · refine ⟨hlt, fun b hb => ?_⟩
      show d b ≠ 0 ∧ (b ∈ stack → upd low f.v lv f.v ≤ d b)
      rw [upd_same]
      obtain ⟨j, hj, hx⟩ := mem_take_of.1 hb
      by_cases e : j = f.i
      · subst e
        have : (g f.v)[f.i]? = some b := hx
        rw [hi] at this
        cases this
        exact ⟨hw, fun hs => by rw [hop hs]; omega⟩
      · obtain ⟨h1, h2⟩ := (h.ei f (by simp)).2 b (mem_take_of.2 ⟨j, by simp at hj; omega, hx⟩)
        exact ⟨h1, fun hs => by have := h2 hs; omega⟩
    · obtain ⟨h1, h2⟩ := h.ei f' (by simp [hf'])
      refine ⟨h1, fun b hb => ⟨(h2 b hb).1, fun hs => ?_⟩⟩
      have := (h2 b hb).2 hs
      have := hle f'.v
      omega
  · intro v hv x hx hxf hvx hnear b hb hbs
    have := h.cov v hv x hx hxf hvx hnear b hb hbs
    have := hle v
    omega

/-- Each open node has a node of the path at or below it that it reaches. -/
theorem T.down (h : T g n d low comp stack path fin count c lowest) : ∀ (m x : Nat), d x = m → x ∈ stack → ∃ v, v ∈ tn path ∧ d v ≤ d x ∧ Path g x v := by
  intro m
  induction m using Nat.strongRecOn with
  | ind m ih =>
    intro x hm hx
    by_cases hp : x ∈ tn path
    · exact ⟨x, hp, Nat.le_refl _, Path.refl g x⟩
    · have h1 := h.lowF x hx hp
      obtain ⟨_, y, hy, h2, h3⟩ := h.lowE x hx
      obtain ⟨v, hv, h4, h5⟩ := ih (d y) (by omega) y rfl hy
      exact ⟨v, hv, by omega, h3.trans h5⟩

theorem T.empty (h : T g n d low comp stack [] fin count c lowest) : stack = [] := by
  cases stack with
  | nil => rfl
  | cons x t =>
    obtain ⟨v, hv, _⟩ := h.down (d x) x rfl (by simp)
    simp [tn] at hv

theorem tn_top {f : Tf} {B : List Tf} (h : T g n d low comp stack (f :: B) fin count c lowest) {v : Nat} (hv : v ∈ tn B) : d v < d f.v ∧ Path g v f.v := by
  obtain ⟨f', hf', rfl⟩ := List.mem_map.1 hv
  exact ⟨(List.pairwise_cons.1 h.pp).1 f' hf', (List.pairwise_cons.1 h.chain).1 f' hf'⟩

/-- THE NODE ON TOP IS DONE AND STAYS OPEN: its low goes down to its parent. 'lp': what the parent's low becomes. -/
theorem T.pop {f : Tf} {B : List Tf} (h : T g n d low comp stack (f :: B) fin count c lowest) (hi : f.i = (g f.v).length) (hlow : low f.v ≠ d f.v) (low' : Nat → Nat)
    (hl : low' = match B with | [] => low | p :: _ => upd low p.v (min (low p.v) (low f.v))) :
    T g n d low' comp stack B (f.v :: fin) count c lowest := by
  have hfs : f.v ∈ stack := h.ps f.v (by simp [tn])
  have hfB : f.v ∉ tn B := by
    have := (List.nodup_append.1 h.nd).2.1
    simp only [tn, List.map_cons] at this
    exact (List.nodup_cons.1 this).1
  have hlf : low f.v < d f.v := by
    have := (h.lowE f.v hfs).1
    omega
  have hle : ∀ x, low' x ≤ low x := fun x => by
    rw [hl]
    cases B with
    | nil => exact Nat.le_refl _
    | cons p B' =>
      show upd low p.v _ x ≤ _
      by_cases e : x = p.v
      · rw [e, upd_same]; omega
      · rw [upd_other low _ e]; exact Nat.le_refl _
  have hkeep : ∀ x, x ∉ tn B → low' x = low x := fun x hx => by
    rw [hl]
    cases B with
    | nil => rfl
    | cons p B' =>
      show upd low p.v _ x = _
      exact upd_other low _ (fun e => hx (by simp [tn, e]))
  -- the topmost node of B is the only one that can be nearest to what lies above it
  have hnearP : ∀ v, v ∈ tn B → (∀ v', v' ∈ tn B → d v < d v' → False) → low' v ≤ low f.v := fun v hv hno => by
    cases B with
    | nil => simp [tn] at hv
    | cons p B' =>
      have hpv : v = p.v := by
        simp only [tn, List.map_cons, List.mem_cons] at hv
        rcases hv with e | hv
        · exact e
        · obtain ⟨f', hf', rfl⟩ := List.mem_map.1 hv
          have hlt := (List.pairwise_cons.1 (List.pairwise_cons.1 h.pp).2).1 f' hf'
          exact (hno p.v (by simp [tn]) hlt).elim
      rw [hl, hpv]
      show upd low p.v _ p.v ≤ _
      rw [upd_same]; omega
  refine ⟨h.dlt, h.dinj, ?_, ?_, ?_, h.sd, h.ss, ?_, (List.pairwise_cons.1 h.pp).2, (List.pairwise_cons.1 h.chain).2, ?_, ?_, ?_, ?_, ?_, ?_, h.cl, h.same, h.surj, h.lo⟩
  · intro v
    rw [h.met v]
    simp only [tn, List.map_cons, List.mem_cons]
    constructor
    · rintro (h1 | h1 | h1)
      · exact .inl (.inr h1)
      · exact .inl (.inl h1)
      · exact .inr h1
    · rintro ((h1 | h1) | h1)
      · exact .inr (.inl h1)
      · exact .inl h1
      · exact .inr (.inr h1)
  · have h1 := h.nd
    simp only [tn, List.map_cons] at h1
    exact List.perm_middle.nodup_iff.1 h1
  · have := h.cnt; simp at this ⊢; omega
  · intro v hv
    exact h.ps v (by simp only [tn, List.map_cons, List.mem_cons] at hv ⊢; exact .inr hv)
  · intro v hv
    exact h.desc v (by simp only [tn, List.map_cons, List.mem_cons] at hv ⊢; exact .inr hv)
  · intro x hx
    obtain ⟨h1, y, hy, h2, h3⟩ := h.lowE x hx
    refine ⟨Nat.le_trans (hle x) h1, ?_⟩
    cases B with
    | nil => rw [hl]; exact ⟨y, hy, h2, h3⟩
    | cons p B' =>
      rw [hl]
      show ∃ y, y ∈ stack ∧ d y = upd low p.v (min (low p.v) (low f.v)) x ∧ Path g x y
      by_cases e : x = p.v
      · rw [e, upd_same]
        subst e
        by_cases hm : low p.v ≤ low f.v
        · exact ⟨y, hy, by rw [h2]; omega, h3⟩
        · obtain ⟨_, z, hz, h4, h5⟩ := h.lowE f.v hfs
          exact ⟨z, hz, by omega, (tn_top h (by simp [tn])).2.trans h5⟩
      · rw [upd_other low _ e]
        exact ⟨y, hy, h2, h3⟩
  · intro x hx hnp
    rw [hkeep x hnp]
    by_cases e : x = f.v
    · rw [e]; exact hlf
    · exact h.lowF x hx (fun hm => by
        simp only [tn, List.map_cons, List.mem_cons] at hm
        rcases hm with hm | hm
        · exact e hm
        · exact hnp hm)
  · intro f' hf'
    obtain ⟨h1, h2⟩ := h.ei f' (by simp [hf'])
    exact ⟨h1, fun b hb => ⟨(h2 b hb).1, fun hs => Nat.le_trans (hle _) ((h2 b hb).2 hs)⟩⟩
  · intro x hx b hb
    rcases List.mem_cons.1 hx with rfl | hx
    · have := (h.ei f (by simp)).2 b
      rw [hi, List.take_of_length_le (Nat.le_refl _)] at this
      exact (this hb).1
    · exact h.ef x hx b hb
  · intro v hv x hx hxf hvx hnear b hb hbs
    have hv' : v ∈ tn (f :: B) := by simp only [tn, List.map_cons, List.mem_cons] at hv ⊢; exact .inr hv
    rcases List.mem_cons.1 hxf with rfl | hxf
    · -- the node that has just been done
      have h1 := hnearP v hv (fun v' hv2 hlt => by
        have h2 := hnear v' hv2 hlt
        have h3 := (tn_top h hv2).1
        omega)
      have := (h.ei f (by simp)).2 b
      rw [hi, List.take_of_length_le (Nat.le_refl _)] at this
      exact Nat.le_trans h1 ((this hb).2 hbs)
    · by_cases hfx : d f.v < d x
      · have h1 := hnearP v hv (fun v' hv2 hlt => by
          have h2 := hnear v' hv2 hlt
          have h3 := (tn_top h hv2).1
          omega)
        refine Nat.le_trans h1 (h.cov f.v (by simp [tn]) x hx hxf hfx (fun v' hv2 hlt => ?_) b hb hbs)
        simp only [tn, List.map_cons, List.mem_cons] at hv2
        rcases hv2 with e | hv2
        · subst e; omega
        · have := (tn_top h hv2).1; omega
      · have hne : d x ≠ d f.v := fun e => by
          have : x = f.v := h.dinj x f.v (h.sd x hx) e
          subst this
          exact h.fin_not_path hxf (by simp [tn])
        refine Nat.le_trans (hle v) (h.cov v hv' x hx hxf hvx (fun v' hv2 hlt => ?_) b hb hbs)
        simp only [tn, List.map_cons, List.mem_cons] at hv2
        rcases hv2 with e | hv2
        · subst e; omega
        · exact hnear v' hv2 hlt
end Go.Proofs.Qxb6602302a

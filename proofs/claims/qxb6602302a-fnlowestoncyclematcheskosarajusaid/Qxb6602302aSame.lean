/-
  zzSamePartition.
-/
import Derived.Test.Qxb6602302aMem2
namespace Go.Proofs.Qxb6602302a
open Go.RowKit
set_option linter.unusedVariables false
set_option linter.unusedSimpArgs false

/-- Which numbers have been paired by the first m nodes. -/
structure Paired (kc : Nat → Int) (cc : Nat → Nat) (m k : Nat) (tT tK : Nat → Int) : Prop where
  t : ∀ a : Nat, a < k → (tT a = -1 ∧ ∀ u, u < m → kc u ≠ a) ∨ (∃ u, u < m ∧ kc u = a ∧ tT a = cc u)
  k : ∀ b : Nat, b < k → (tK b = -1 ∧ ∀ u, u < m → cc u ≠ b) ∨ (∃ u, u < m ∧ cc u = b ∧ tK b = kc u)

theorem Paired.start (kc : Nat → Int) (cc : Nat → Nat) (k : Nat) : Paired kc cc 0 k (fun _ => -1) (fun _ => -1) :=
  ⟨fun a _ => .inl ⟨rfl, by simp⟩, fun b _ => .inl ⟨rfl, by simp⟩⟩

section
variable {kc : Nat → Int} {cc : Nat → Nat} {n m k : Nat} {tT tK : Nat → Int}

/-- Both numbers are new together, or both are known and fit. -/
theorem Paired.next (h : Paired kc cc m k tT tK) (hm : m < n) (hs : ∀ u v, u < n → v < n → (kc u = kc v ↔ cc u = cc v)) (hr : ∀ u, u < n → 0 ≤ kc u ∧ kc u < k) (hc : ∀ u, u < n → cc u < k) {a : Nat} (ha : kc m = a) :
    (tT a < 0 ∧ tK (cc m) < 0 ∧ Paired kc cc (m + 1) k (upd tT a (cc m)) (upd tK (cc m) a)) ∨ (¬ tT a < 0 ∧ tT a = cc m ∧ tK (cc m) = a ∧ Paired kc cc (m + 1) k tT tK) := by
  have hak : a < k := by have := (hr m hm).2; omega
  have hbk := hc m hm
  rcases h.t a hak with ⟨h1, h2⟩ | ⟨u, hu, h1, h2⟩
  · have h3 : ∀ u, u < m → cc u ≠ cc m := fun u hu e => h2 u hu (by rw [(hs u m (by omega) hm).2 e, ha])
    have h4 : tK (cc m) = -1 := by
      rcases h.k (cc m) hbk with ⟨h5, _⟩ | ⟨u, hu, h5, _⟩
      · exact h5
      · exact absurd h5 (h3 u hu)
    refine .inl ⟨by omega, by omega, fun x hx => ?_, fun x hx => ?_⟩
    · by_cases e : x = a
      · subst e
        exact .inr ⟨m, by omega, ha, upd_same _ _ _⟩
      · rw [upd_other _ _ e]
        rcases h.t x hx with ⟨h5, h6⟩ | ⟨u, hu, h5, h6⟩
        · refine .inl ⟨h5, fun u hu e2 => ?_⟩
          by_cases e3 : u = m
          · subst e3; rw [ha] at e2; exact e (by omega)
          · exact h6 u (by omega) e2
        · exact .inr ⟨u, by omega, h5, h6⟩
    · by_cases e : x = cc m
      · subst e
        exact .inr ⟨m, by omega, rfl, by rw [upd_same, ha]⟩
      · rw [upd_other _ _ e]
        rcases h.k x hx with ⟨h5, h6⟩ | ⟨u, hu, h5, h6⟩
        · refine .inl ⟨h5, fun u hu e2 => ?_⟩
          by_cases e3 : u = m
          · subst e3; exact e e2.symm
          · exact h6 u (by omega) e2
        · exact .inr ⟨u, by omega, h5, h6⟩
  · have h3 : cc u = cc m := (hs u m (by omega) hm).1 (by rw [h1, ha])
    have h4 : tK (cc m) = a := by
      rcases h.k (cc m) hbk with ⟨_, h5⟩ | ⟨v, hv, h5, h6⟩
      · exact absurd h3 (h5 u hu)
      · rw [h6, (hs v m (by omega) hm).2 h5, ha]
    refine .inr ⟨by omega, by rw [h2, h3], h4, fun x hx => ?_, fun x hx => ?_⟩
    · rcases h.t x hx with ⟨h5, h6⟩ | ⟨u', hu', h5, h6⟩
      · refine .inl ⟨h5, fun u' hu' e2 => ?_⟩
        by_cases e3 : u' = m
        · subst e3; exact h6 u hu (by rw [h1, ← ha, e2])
        · exact h6 u' (by omega) e2
      · exact .inr ⟨u', by omega, h5, h6⟩
    · rcases h.k x hx with ⟨h5, h6⟩ | ⟨u', hu', h5, h6⟩
      · refine .inl ⟨h5, fun u' hu' e2 => ?_⟩
        by_cases e3 : u' = m
        · subst e3; exact h6 u hu (by rw [h3, e2])
        · exact h6 u' (by omega) e2
      · exact .inr ⟨u', by omega, h5, h6⟩
end

/-- The two rows of pairs. -/
structure PM (w : World) (A D k : Nat) (tT tK : Nat → Int) (wr : World) : Prop where
  t : wr.rowIs A 3 k (fun i => .int .i64 (tT i))
  k : wr.rowIs D 3 k (fun i => .int .i64 (tK i))
  b : Below w.heap.size w wr

theorem PM.setT {w wr : World} {A D k : Nat} {tT tK : Nat → Int} (h : PM w A D k tT tK wr) (hA : w.heap.size ≤ A) (hne : A ≠ D) (i : Nat) (x : Int) : PM w A D k (upd tT i x) tK (wr.setCell ⟨A, i, none⟩ (.int .i64 x)) :=
  ⟨(h.t.set i _).congr fun j _ => by unfold upd; by_cases e : j = i <;> simp [e], h.k.setOther (fun e => hne e.symm) _, h.b.setCell hA _⟩
theorem PM.setK {w wr : World} {A D k : Nat} {tT tK : Nat → Int} (h : PM w A D k tT tK wr) (hA : w.heap.size ≤ D) (hne : A ≠ D) (i : Nat) (x : Int) : PM w A D k tT (upd tK i x) (wr.setCell ⟨D, i, none⟩ (.int .i64 x)) :=
  ⟨h.t.setOther hne _, (h.k.set i _).congr fun j _ => by unfold upd; by_cases e : j = i <;> simp [e], h.b.setCell hA _⟩
theorem PM.congr {w wr : World} {A D k : Nat} {tT tK tT' tK' : Nat → Int} (h : PM w A D k tT tK wr) (e1 : ∀ i, i < k → tT i = tT' i) (e2 : ∀ i, i < k → tK i = tK' i) : PM w A D k tT' tK' wr :=
  ⟨h.t.congr fun i hi => by rw [e1 i hi], h.k.congr fun i hi => by rw [e2 i hi], h.b⟩

set_option maxHeartbeats 2000000 in
theorem sameW (K C n k : Nat) (kc : Nat → Int) (cc : Nat → Nat) (w : World) (hn : n ≤ 65536) (hk : k ≤ n) (hkc : w.rowIs K 3 n (fun i => .int .i64 (kc i))) (hcc : w.rowIs C 3 n (fun i => .int .i64 (cc i : Int)))
    (hs : ∀ u v, u < n → v < n → (kc u = kc v ↔ cc u = cc v)) (hr : ∀ u, u < n → 0 ≤ kc u ∧ kc u < k) (hc : ∀ u, u < n → cc u < k) :
    Calls Try.prog 12 #[.slice (some ⟨K, 0, none⟩) n n, .int .i64 (k : Int), .slice (some ⟨C, 0, none⟩) n n] w fun e w' => e = .returned (.bool true) ∧ Below w.heap.size w w' := by
  obtain ⟨i3, h3, h3z, h3s, h3b⟩ := info_parts Try.info3
  have HS : Hid (∀ u v, u < n → v < n → (kc u = kc v ↔ cc u = cc v)) := hs
  clear hs
  have tok1 : True := trivial
  have tok2 : True := trivial
  go_enter Try.func12, Try.ntmps12
  go_wp2_with (first
    | (at_make; have _t := tok1; refine wpList_mk _ rfl _ _ 25 rfl 3 i3 _ Try.underlying25 h3 h3z h3s rfl .i64 .i64 _ _ k k rfl rfl rfl rfl (Nat.le_refl _) (by rw [h3b]; omega) (by unfold maxLen; omega) ?_; intro w1 z1 r1 g1; clear tok1; have Z1 : Hid (w1.heap.size = w.heap.size + 1) := z1; clear z1)
    | (at_make; have _t := tok2; refine wpList_mk _ rfl _ _ 25 rfl 3 i3 _ Try.underlying25 h3 h3z h3s rfl .i64 .i64 _ _ k k rfl rfl rfl rfl (Nat.le_refl _) (by rw [h3b]; omega) (by unfold maxLen; omega) ?_; intro w2 z2 r2 g2; clear tok2; have Z2 : Hid (w2.heap.size = w1.heap.size + 1) := z2; clear z2))
  have H0 : PM w w.heap.size w1.heap.size k (fun _ => 0) (fun _ => 0) w2 := ⟨rowIs_kept r1 g2 (by simp), r2, ((Below.refl _ _).grown g1 (Nat.le_refl _) (by simp)).grown g2 (by have := Z1.out; omega) (by simp)⟩
  have hAD : w.heap.size ≠ w1.heap.size := by have := Z1.out; omega
  have hD : w.heap.size ≤ w1.heap.size := by have := Z1.out; omega
  have hKl := hkc.lt
  have hCl := hcc.lt
  clear r1 r2 g1 g2 Z1 Z2
  generalize w1.heap.size = D at *
  go_loopg [9] k (fun gk s9 wr => ∃ i : Nat, i ≤ k ∧ gk = k - i ∧ s9 = .int .i64 (i : Int) ∧ PM w w.heap.size D k (fun j => if j < i then -1 else 0) (fun j => if j < i then -1 else 0) wr)
  case atStart => exact ⟨0, Nat.zero_le _, by omega, rfl, H0.congr (fun i _ => by simp) (fun i _ => by simp)⟩
  case round =>
    clear H0
    obtain ⟨i, hi, hgk, rfl, hM⟩ := hrel
    by_cases hlt : i < k
    · have c1 := hM.t.cell hlt
      have z1 := hM.t.frozen i
      have hM2 := hM.setT (Nat.le_refl _) hAD i (-1)
      have c2 := hM2.k.cell hlt
      have z2 := hM2.k.frozen i
      go_wp2
      go_roundg (k - (i + 1))
      case measure => omega
      case rel =>
        have hst : ∀ j, upd (fun j => if j < i then (-1 : Int) else 0) i (-1) j = if j < i + 1 then -1 else 0 := fun j => by
          unfold upd
          dsimp only
          by_cases e : j = i
          · subst e; rw [if_pos rfl, if_pos (by omega)]
          · rw [if_neg e]
            by_cases h : j < i
            · rw [if_pos h, if_pos (by omega)]
            · rw [if_neg h, if_neg (by omega)]
        exact ⟨i + 1, by omega, rfl, by go_num, (hM2.setK hD hAD i (-1)).congr (fun j _ => hst j) (fun j _ => hst j)⟩
    · obtain rfl : i = k := by omega
      have H1 := hM.congr (tT' := fun _ => -1) (tK' := fun _ => -1) (fun j hj => if_pos hj) (fun j hj => if_pos hj)
      clear hM
      go_wp2
      go_loopg [30] n (fun gk s30 wr => ∃ m tT tK, m ≤ n ∧ gk = n - m ∧ s30 = .int .i64 ((m : Nat) : Int) ∧ Paired kc cc m i tT tK ∧ PM w w.heap.size D i tT tK wr)
      case atStart => exact ⟨0, _, _, Nat.zero_le _, by omega, rfl, Paired.start _ _ _, H1⟩
      case round =>
        clear H1
        obtain ⟨m, tT, tK, hm, hgk, rfl, hP, hM⟩ := hrel
        by_cases hmn : m < n
        · obtain ⟨hr1, hr2⟩ := hr m hmn
          have hcm := hc m hmn
          obtain ⟨a, ha⟩ : ∃ a : Nat, kc m = a := ⟨(kc m).toNat, by omega⟩
          have hak : a < i := by omega
          have ck0 := (hM.b.cell (p := ⟨K, m, none⟩) hKl).trans (hkc.cell hmn)
          have cc0 := (hM.b.cell (p := ⟨C, m, none⟩) hCl).trans (hcc.cell hmn)
          rw [ha] at ck0
          have cA := hM.t.cell hak
          have zA := hM.t.frozen a
          have cD := hM.k.cell hcm
          rcases hP.next hmn HS.out hr hc ha with ⟨h1, h2, hP2⟩ | ⟨h1, h2, h3', hP2⟩
          · have HP2 : Hid (Paired kc cc (m + 1) i (upd tT a (cc m)) (upd tK (cc m) a)) := hP2
            have HAK : Hid (kc m = a) := ha
            clear hP2 hP ha hr1 hr2
            have hM2 := hM.setT (Nat.le_refl _) hAD a (cc m)
            have c2 := hM2.k.cell hcm
            have z2 := hM2.k.frozen (cc m)
            have hM3 := hM2.setK hD hAD (cc m) a
            have d1 : decide (tT a < 0) = true := decide_eq_true h1
            have d2 : decide (tK (cc m) < 0) = true := decide_eq_true h2
            go_wp2
            go_roundg (n - (m + 1))
            case measure => omega
            case rel => exact ⟨m + 1, _, _, by omega, rfl, by go_num, HP2.out, hM3⟩
          · have HP2 : Hid (Paired kc cc (m + 1) i tT tK) := hP2
            have HAK : Hid (kc m = a) := ha
            have d1 : decide (tT a < 0) = false := decide_eq_false h1
            rw [h2] at cA
            rw [h3'] at cD
            clear hP2 hP ha hr1 hr2 h2 h3' d1 h1
            go_wp2
            go_roundg (n - (m + 1))
            case measure => omega
            case rel => exact ⟨m + 1, tT, tK, by omega, rfl, by go_num, HP2.out, hM⟩
        · go_wp2
          go_ret
          exact ⟨rfl, hM.b⟩
end Go.Proofs.Qxb6602302a

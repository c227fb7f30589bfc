import Derived.Test.Qxb6602266aPlain
namespace Go.Proofs.Qxb6602266a
open Go.RowKit Go.PlainAid
set_option linter.unusedVariables false

def BoolRet (e : Ending) : Prop := ∃ x, e = .returned (.bool x)

set_option maxHeartbeats 1000000 in
theorem zzb5 (s l : ByteArray) (w : World) : Calls Try.prog 5 #[.string s, .string l] w fun e w' => BoolRet e ∧ w' = w := by
  go_enter Try.func5, Try.ntmps5
  go_wp2
  all_goals
    go_ret
    exact ⟨⟨_, rfl⟩, rfl⟩
set_option maxHeartbeats 1000000 in
theorem zzb9 (x0 x1 x2 : Int) (l : ByteArray) (w : World) : Calls Try.prog 9 #[.int .i64 x0, .int .i64 x1, .int .i64 x2, .string l] w fun e w' => BoolRet e ∧ w' = w := by
  go_enter Try.func9, Try.ntmps9
  go_wp2
  all_goals
    go_ret
    exact ⟨⟨_, rfl⟩, rfl⟩

set_option maxHeartbeats 1000000 in
theorem fitsAt (c l : Int) (w : World) : Calls Try.prog 13 #[.int .u8 c, .int .u8 l] w fun e w' => e = .returned (.bool (fitB c l)) ∧ w' = w := by
  unfold fitB
  by_cases h : l = 48
  · subst h
    by_cases h1 : 48 ≤ c
    · have d1 : decide (48 ≤ c) = true := by simpa using h1
      go_enter Try.func13, Try.ntmps13
      go_wp2
      go_ret
      refine ⟨?_, rfl⟩
      simp
    · have d1 : decide (48 ≤ c) = false := by simpa using h1
      go_enter Try.func13, Try.ntmps13
      go_wp2
      go_ret
      refine ⟨?_, rfl⟩
      simp
  · have hb : (l == 48) = false := by rw [beq_eq_false_iff_ne]; exact h
    rw [if_neg h]
    go_enter Try.func13, Try.ntmps13
    go_wp2
    go_ret
    refine ⟨?_, rfl⟩
    rw [← Bool.beq_eq_decide_eq]
    rfl

/-- The places of the last 0 up to k, and that it is the last. -/
def LastZ (l : ByteArray) (k : Nat) (r : Int) : Prop := -1 ≤ r ∧ r < k ∧ ∀ i : Nat, i < k → bt l i = 48 → (i : Int) ≤ r

def SafeRet (l : ByteArray) (e : Ending) : Prop := ∃ x, e = .returned (.bool x) ∧ (x = true → Safe l)

theorem safe_end {l : ByteArray} {r : Int} (h : LastZ l l.size r) (hs : sepN l r.toNat ≤ 2) : Safe l := by
  intro i hi h48
  have h1 := h.2.2 i hi h48
  exact Nat.le_trans (sepN_mono l (by omega)) hs

set_option maxHeartbeats 1000000 in
theorem layoutSafe (l : ByteArray) (w : World) (hl : l.size ≤ 65536) : Calls Try.prog 6 #[.string l] w fun e w' => SafeRet l e ∧ w' = w := by
  have hb := get_bt l
  go_enter Try.func6, Try.ntmps6
  go_wp2
  go_loop [3, 4] (fun r i => ∃ k : Nat, ∃ r' : Int, k ≤ l.size ∧ i = .int .i64 k ∧ r = .int .i64 r' ∧ LastZ l k r') (fun _ i => l.size - (intOf i).toNat)
  case atStart => exact ⟨0, -1, Nat.zero_le _, rfl, rfl, by omega, by omega, fun i h => absurd h (by omega)⟩
  case round =>
    obtain ⟨k, r, hk, rfl, rfl, hr1, hr2, hr3⟩ := hrel
    by_cases hlt : k < l.size
    · by_cases h48 : bt l k = 48
      · have hq : (bt l k == 48) = true := by rw [beq_iff_eq]; exact h48
        have HH : Hid (bt l k = 48) := h48
        clear h48
        go_wp2
        go_round
        case rel => exact ⟨k + 1, k, by omega, by go_num, rfl, by omega, by omega, fun i hi _ => by omega⟩
        case measure => simp [intOf]; omega
      · have hq : (bt l k == 48) = false := by rw [beq_eq_false_iff_ne]; exact h48
        go_wp2
        go_round
        case rel => exact ⟨k + 1, r, by omega, by go_num, rfl, by omega, by omega, fun i hi h => by
            by_cases e : i = k
            · subst e; exact absurd h h48
            · exact hr3 i (by omega) h⟩
        case measure => simp [intOf]; omega
    · obtain rfl : k = l.size := by omega
      have HL : Hid (LastZ l l.size r) := ⟨hr1, hr2, hr3⟩
      clear hr3
      go_wp2
      go_loop [5, 6] (fun c i => ∃ k : Nat, (k : Int) ≤ max r 0 ∧ i = .int .i64 k ∧ c = .int .i64 (sepN l k)) (fun _ i => (r - intOf i).toNat)
      case atStart => exact ⟨0, by omega, rfl, rfl⟩
      case round =>
        obtain ⟨k, hk2, rfl, rfl⟩ := hrel
        have hsl := sepN_le l k
        by_cases hlt2 : (k : Int) < r
        · have hkl : k < l.size := by omega
          by_cases h48 : bt l k = 48
          · have hq : (bt l k != 48) = false := by simp [h48]
            have HS : Hid (sepN l (k + 1) = sepN l k) := sepN_zero h48
            clear h48
            go_wp2
            go_round
            case rel => exact ⟨k + 1, by omega, by go_num, by rw [HS.out]⟩
            case measure => simp [intOf]; omega
          · have hq : (bt l k != 48) = true := by simp [h48]
            have HS : Hid (sepN l (k + 1) = sepN l k + 1) := sepN_sep h48
            go_wp2
            go_round
            case rel => exact ⟨k + 1, by omega, by go_num, by rw [HS.out]; go_num⟩
            case measure => simp [intOf]; omega
        · go_wp2
          go_ret
          refine ⟨⟨_, rfl, fun h => safe_end HL.out ?_⟩, rfl⟩
          simp at h
          have : r.toNat ≤ k := by omega
          exact Nat.le_trans (sepN_mono l this) (by omega)

def aggV (s l : ByteArray) (p : Nat) : Value := .agg #[.int .i64 (V s l p 0), .int .i64 (V s l p 1), .int .i64 (V s l p 2)]

/-- What reading answers where the lengths agree. -/
def RdRet (s l : ByteArray) (e : Ending) : Prop := ∃ p, Mis s l p ∧ e = .returned (.tuple #[aggV s l p, .bool (decide (p = s.size))])

def zeroRet : Ending := .returned (.tuple #[.agg #[.int .i64 0, .int .i64 0, .int .i64 0], .bool false])

theorem rd_no {s l : ByteArray} {p : Nat} (h : Mis s l p) (hp : p < s.size) : RdRet s l (.returned (.tuple #[aggV s l p, .bool false])) :=
  ⟨p, h, by rw [decide_eq_false (by omega)]⟩
theorem rd_yes {s l : ByteArray} {p : Nat} (h : Mis s l p) (hp : p = s.size) : RdRet s l (.returned (.tuple #[aggV s l p, .bool true])) :=
  ⟨p, h, by rw [decide_eq_true hp]⟩

/-- A row of three, written over by itself. -/
theorem three_set {w : World} {B : Nat} {t : TypeId} {f : Nat → Value} (h : w.rowIs B t 3 f) (v0 v1 v2 : Value) :
    (((w.setCell ⟨B, 0, none⟩ v0).setCell ⟨B, 1, none⟩ v1).setCell ⟨B, 2, none⟩ v2).cell? ⟨B, 0, none⟩ = some v0 ∧ (((w.setCell ⟨B, 0, none⟩ v0).setCell ⟨B, 1, none⟩ v1).setCell ⟨B, 2, none⟩ v2).cell? ⟨B, 1, none⟩ = some v1 ∧
    (((w.setCell ⟨B, 0, none⟩ v0).setCell ⟨B, 1, none⟩ v1).setCell ⟨B, 2, none⟩ v2).cell? ⟨B, 2, none⟩ = some v2 := by
  have h3 := ((h.set 0 v0).set 1 v1).set 2 v2
  exact ⟨by rw [h3.cell (i := 0) (by omega)]; rfl, by rw [h3.cell (i := 1) (by omega)]; rfl, by rw [h3.cell (i := 2) (by omega)]; rfl⟩

theorem three_below {w w0 : World} {B : Nat} (hb : Below B w0 w) (v0 v1 v2 : Value) : Below B w0 (((w.setCell ⟨B, 0, none⟩ v0).setCell ⟨B, 1, none⟩ v1).setCell ⟨B, 2, none⟩ v2) :=
  ((hb.setCell (Nat.le_refl _) _).setCell (Nat.le_refl _) _).setCell (Nat.le_refl _) _

theorem fit_sep {c l : Int} (h : ¬ l = 48) : fitB c l = decide (c = l) := by unfold fitB; rw [if_neg h]
theorem fit_dig {c l : Int} (h : l = 48) : fitB c l = decide (48 ≤ c ∧ c ≤ 57) := by unfold fitB; rw [if_pos h]

theorem fits_snoc {s l : ByteArray} {k : Nat} (h : ∀ i, i < k → fitB (bt s i) (bt l i) = true) (hk : fitB (bt s k) (bt l k) = true) : ∀ i, i < k + 1 → fitB (bt s i) (bt l i) = true := fun i hi => by
  by_cases e : i = k
  · subst e; exact hk
  · exact h i (by omega)

theorem dig_cell {s l : ByteArray} {k : Nat} (h : bt l k = 48) (j : Nat) :
    (if j = sepN l k then Value.int .i64 (wrap64 (wrap64 (V s l k (sepN l k) * 10) + (bt s k - 48))) else Value.int .i64 (V s l k j)) = .int .i64 (V s l (k + 1) j) := by
  by_cases e : j = sepN l k
  · rw [if_pos e, V_digit h e.symm, e]
  · rw [if_neg e, V_other (fun hh => e hh.2.symm)]

set_option maxHeartbeats 1000000 in
theorem readNe (s l : ByteArray) (w : World) (hne : s.size ≠ l.size) : Calls Try.prog 12 #[.string s, .string l] w fun e w' => e = zeroRet ∧ Below w.heap.size w w' := by
  have hq : ((s.size : Int) != (l.size : Int)) = true := by simp; omega
  go_enter Try.func12, Try.ntmps12
  go_wp2
  exact bodyPost_ret (v := .tuple #[.agg #[.int .i64 0, .int .i64 0, .int .i64 0], .bool false]) (by simp [results, Try.results12, go_sem]) rfl ⟨rfl, (Below.refl _ _).alloc (Nat.le_refl _) _⟩

set_option maxHeartbeats 1000000 in
theorem readEq (s l : ByteArray) (w : World) (hs : s.size ≤ 65536) (heq : s.size = l.size) (hsafe : Safe l) : Calls Try.prog 12 #[.string s, .string l] w fun e w' => RdRet s l e ∧ Below w.heap.size w w' := by
  have hq0 : ((s.size : Int) != (l.size : Int)) = false := by simp; omega
  have hbs := get_bt s
  have hbl := get_bt l
  have HE : Hid (s.size = l.size) := heq
  have hle : s.size ≤ l.size := by omega
  clear heq
  go_enter Try.func12, Try.ntmps12
  go_wp2
  go_loopw [6, 7] (fun g i wr => ∃ k : Nat, k ≤ s.size ∧ i = .int .i64 k ∧ g = .int .i64 (sepN l k) ∧ (∀ i, i < k → fitB (bt s i) (bt l i) = true) ∧ wr.rowIs w.heap.size 24 3 (fun j => .int .i64 (V s l k j)) ∧ Below w.heap.size w wr) (fun _ i _ => s.size - (intOf i).toNat)
  case atStart =>
    refine ⟨0, Nat.zero_le _, rfl, rfl, fun i h => absurd h (by omega), ?_, (Below.refl _ _).alloc (Nat.le_refl _) _⟩
    refine ⟨_, heap_alloc_new _ _, rfl, fun i hi => ?_⟩
    match i, hi with
    | 0, _ => simp [V_zero]
    | 1, _ => simp [V_zero]
    | 2, _ => simp [V_zero]
  case round =>
    obtain ⟨k, hk, rfl, rfl, hfit, hrow, hbel⟩ := hrel
    have hsl := sepN_le l k
    have c0 := hrow.cell (i := 0) (by omega)
    have c1 := hrow.cell (i := 1) (by omega)
    have c2 := hrow.cell (i := 2) (by omega)
    have z0 := hrow.frozen 0
    have z1 := hrow.frozen 1
    have z2 := hrow.frozen 2
    by_cases hlt : k < s.size
    · have hkl : k < l.size := by omega
      by_cases h48 : bt l k = 48
      · have hq : (bt l k != 48) = false := by simp [h48]
        have hsep := hsafe k hkl h48
        have H48 : Hid (bt l k = 48) := h48
        clear h48
        by_cases hc1 : 48 ≤ bt s k
        · by_cases hc2 : bt s k ≤ 57
          · have d1 : decide (bt s k < 48) = false := by simp; omega
            have d2 : decide (57 < bt s k) = false := by simp; omega
            have cg := hrow.cell (i := sepN l k) (by omega)
            have zg := hrow.frozen (sepN l k)
            go_wp2
            go_roundw
            case rel => exact ⟨k + 1, by omega, by go_num, by rw [sepN_zero H48.out], fits_snoc hfit (by rw [fit_dig H48.out]; simp; omega), (hrow.set _ _).congr (fun j _ => dig_cell H48.out j), hbel.setCell (Nat.le_refl _) _⟩
            case measure => simp [intOf]; omega
          · have d1 : decide (bt s k < 48) = false := by simp; omega
            have d2 : decide (57 < bt s k) = true := by simp; omega
            go_wp2
            obtain ⟨q0, q1, q2⟩ := three_set hrow (.int .i64 (V s l k 0)) (.int .i64 (V s l k 1)) (.int .i64 (V s l k 2))
            exact bodyPost_ret (v := .tuple #[aggV s l k, .bool false]) (by simp [results, Try.results12, go_sem, q0, q1, q2, aggV]) rfl ⟨rd_no ⟨hk, hfit, fun _ => by rw [fit_dig H48.out]; simp; omega⟩ hlt, three_below hbel _ _ _⟩
        · have d1 : decide (bt s k < 48) = true := by simp; omega
          go_wp2
          obtain ⟨q0, q1, q2⟩ := three_set hrow (.int .i64 (V s l k 0)) (.int .i64 (V s l k 1)) (.int .i64 (V s l k 2))
          exact bodyPost_ret (v := .tuple #[aggV s l k, .bool false]) (by simp [results, Try.results12, go_sem, q0, q1, q2, aggV]) rfl ⟨rd_no ⟨hk, hfit, fun _ => by rw [fit_dig H48.out]; simp; omega⟩ hlt, three_below hbel _ _ _⟩
      · have hq : (bt l k != 48) = true := by simp [h48]
        by_cases hc : bt s k = bt l k
        · have hq2 : (bt s k != bt l k) = false := by simp [hc]
          have HC : Hid (bt s k = bt l k) := hc
          clear hc
          go_wp2
          go_roundw
          case rel => exact ⟨k + 1, by omega, by go_num, by rw [sepN_sep h48]; go_num, fits_snoc hfit (by rw [fit_sep h48]; simpa using HC.out), hrow.congr (fun j _ => by rw [V_other (fun hh => h48 hh.1)]), hbel⟩
          case measure => simp [intOf]; omega
        · have hq2 : (bt s k != bt l k) = true := by simp [hc]
          go_wp2
          obtain ⟨q0, q1, q2⟩ := three_set hrow (.int .i64 (V s l k 0)) (.int .i64 (V s l k 1)) (.int .i64 (V s l k 2))
          exact bodyPost_ret (v := .tuple #[aggV s l k, .bool false]) (by simp [results, Try.results12, go_sem, q0, q1, q2, aggV]) rfl ⟨rd_no ⟨hk, hfit, fun _ => by rw [fit_sep h48]; simpa using hc⟩ hlt, three_below hbel _ _ _⟩
    · go_wp2
      obtain ⟨q0, q1, q2⟩ := three_set hrow (.int .i64 (V s l k 0)) (.int .i64 (V s l k 1)) (.int .i64 (V s l k 2))
      exact bodyPost_ret (v := .tuple #[aggV s l k, .bool true]) (by simp [results, Try.results12, go_sem, q0, q1, q2, aggV]) rfl ⟨rd_yes ⟨hk, hfit, fun h => absurd h hlt⟩ (by omega), three_below hbel _ _ _⟩

set_option maxHeartbeats 1000000 in
theorem zzRead (s l : ByteArray) (w : World) (e0 : Ending → Prop) (hv : ∀ e, e0 e → ∃ a b c ok, e = .returned (.tuple #[.agg #[.int .i64 a, .int .i64 b, .int .i64 c], .bool ok]))
    (hc : ∀ w, Calls Try.prog 12 #[.string s, .string l] w fun e w' => e0 e ∧ Below w.heap.size w w') :
    Calls Try.prog 7 #[.string s, .string l] w fun e w' => e0 e ∧ Below w.heap.size w w' := by
  have HV : Hid (∀ e, e0 e → ∃ a b c ok, e = .returned (.tuple #[.agg #[.int .i64 a, .int .i64 b, .int .i64 c], .bool ok])) := hv
  have HC : Hid (∀ w, Calls Try.prog 12 #[.string s, .string l] w fun e w' => e0 e ∧ Below w.heap.size w w') := hc
  clear hv hc
  go_enter Try.func7, Try.ntmps7
  go_wp2_with fail
  refine (HC.out _).mono ?_
  rintro e w1 ⟨he, hb⟩
  obtain ⟨a, b, c, ok, rfl⟩ := HV.out e he
  have HR : Hid (w1.rowIs w.heap.size 24 3 (fun j => .int .i64 0)) := by
    have h1 := hb.block w.heap.size (by simp)
    rw [heap_alloc_new] at h1
    refine ⟨_, h1, rfl, fun i hi => ?_⟩
    match i, hi with
    | 0, _ => rfl
    | 1, _ => rfl
    | 2, _ => rfl
  have c0 := HR.out.cell (i := 0) (by omega)
  have c1 := HR.out.cell (i := 1) (by omega)
  have c2 := HR.out.cell (i := 2) (by omega)
  have z0 := HR.out.frozen 0
  have z1 := HR.out.frozen 1
  have z2 := HR.out.frozen 2
  have H0 : Hid (e0 (.returned (.tuple #[.agg #[.int .i64 a, .int .i64 b, .int .i64 c], .bool ok]))) := he
  clear he
  go_wp2
  obtain ⟨q0, q1, q2⟩ := three_set HR.out (.int .i64 a) (.int .i64 b) (.int .i64 c)
  exact bodyPost_ret (v := .tuple #[.agg #[.int .i64 a, .int .i64 b, .int .i64 c], .bool ok]) (by simp [results, Try.results7, go_sem, q0, q1, q2]) rfl ⟨H0.out, three_below (((Below.refl _ _).alloc (Nat.le_refl _) _).trans (hb.mono (by simp))) _ _ _⟩

theorem zzReadNe (s l : ByteArray) (w : World) (hne : s.size ≠ l.size) : Calls Try.prog 7 #[.string s, .string l] w fun e w' => e = zeroRet ∧ Below w.heap.size w w' :=
  zzRead s l w (fun e => e = zeroRet) (fun e h => ⟨0, 0, 0, false, h⟩) (fun w => readNe s l w hne)
theorem zzReadEq (s l : ByteArray) (w : World) (hs : s.size ≤ 65536) (heq : s.size = l.size) (hsafe : Safe l) : Calls Try.prog 7 #[.string s, .string l] w fun e w' => RdRet s l e ∧ Below w.heap.size w w' :=
  zzRead s l w (RdRet s l) (fun e ⟨p, _, h⟩ => ⟨_, _, _, _, h⟩) (fun w => readEq s l w hs heq hsafe)
end Go.Proofs.Qxb6602266a

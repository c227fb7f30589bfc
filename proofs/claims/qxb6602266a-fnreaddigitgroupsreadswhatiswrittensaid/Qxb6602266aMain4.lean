import Derived.Test.Qxb6602266aWidths
import Derived.Test.Qxb6602266aMain3
import Derived.Deep.RegionWith
namespace Go.Proofs.Qxb6602266a
open Go.RowKit Go.PlainAid
set_option linter.unusedVariables false

/-- The three numbers. -/
def xs3 (a b c : Nat) (j : Nat) : Nat := if j = 0 then a else if j = 1 then b else c

theorem V_written (l : ByteArray) (x : Nat → Nat) (j : Nat) (hx : x j < 10 ^ wid l j l.size) (hb : x j ≤ 9223372036854775807) : V ⟨(written l x).toArray⟩ l l.size j = (x j : Int) := by
  unfold V
  rw [H_written l x j hx l.size (Nat.le_refl _), rem_end, Nat.pow_zero, Nat.div_one]
  exact IntWalk.wrap64_in _ ⟨by omega, by omega⟩

theorem size_written (l : ByteArray) (x : Nat → Nat) : (⟨(written l x).toArray⟩ : ByteArray).size = l.size := by
  show (written l x).toArray.size = _
  simp [written_len]

theorem mis_written (l : ByteArray) (x : Nat → Nat) : Mis ⟨(written l x).toArray⟩ l l.size :=
  ⟨by rw [size_written]; exact Nat.le_refl _, fun i hi => fits_written l x i hi, fun h => absurd h (by rw [size_written]; omega)⟩

theorem conv_bytes' (l : ByteArray) (W : World) (B : Nat) (hB : W.heap.size = B) : ∃ W' cap, (convert 9 30 (.string l)).run Try.prog W = .ok (.slice (some ⟨B, 0, none⟩) l.size cap) W' ∧ ByteRow W' B l.size (fun k => .int .u8 (bt l k)) ∧ Below W.heap.size W W' := by
  subst hB
  exact conv_bytes l W

theorem rowX (w : World) (a b c : Nat) : (w.alloc (.cells #[.int .i64 a, .int .i64 b, .int .i64 c] 24)).rowIs w.heap.size 24 3 (fun j => .int .i64 (xs3 a b c j)) := by
  refine ⟨_, heap_alloc_new _ _, rfl, fun i hi => ?_⟩
  match i, hi with
  | 0, _ => rfl
  | 1, _ => rfl
  | 2, _ => rfl

set_option maxHeartbeats 1000000 in
theorem main4neg (x0 x1 x2 : Int) (l : ByteArray) (w : World) (hn : x0 < 0 ∨ x1 < 0 ∨ x2 < 0) :
    Calls Try.prog 4 #[.int .i64 x0, .int .i64 x1, .int .i64 x2, .string l] w fun e w' => e = .returned (.bool true) ∧ Below w.heap.size w w' := by
  go_enter Try.func4, Try.ntmps4
  go_wp2_with fail
  refine (zzb9 x0 x1 x2 l _).mono ?_
  rintro e w0 ⟨⟨x, rfl⟩, rfl⟩
  cases x with
  | false =>
    go_wp2_with fail
    go_ret
    exact ⟨rfl, Below.refl _ _⟩
  | true =>
    by_cases h2 : 65536 < l.size
    · go_wp2_with fail
      go_ret
      exact ⟨rfl, Below.refl _ _⟩
    go_wp2_with fail
    refine (layoutSafe l _ (by omega)).mono ?_
    rintro e w1 ⟨⟨x, rfl, hx⟩, rfl⟩
    clear hx
    cases x with
    | false =>
      go_wp2_with fail
      go_ret
      exact ⟨rfl, Below.refl _ _⟩
    | true =>
      by_cases h0 : x0 < 0
      · have d0 : decide (x0 < 0) = true := by simpa using h0
        go_wp2_with fail
        go_ret
        exact ⟨rfl, Below.refl _ _⟩
      have d0 : decide (x0 < 0) = false := by simpa using h0
      by_cases h1 : x1 < 0
      · have d1 : decide (x1 < 0) = true := by simpa using h1
        go_wp2_with fail
        go_ret
        exact ⟨rfl, Below.refl _ _⟩
      have d1 : decide (x1 < 0) = false := by simpa using h1
      have d2 : decide (x2 < 0) = true := by simp; omega
      go_wp2_with fail
      go_ret
      exact ⟨rfl, Below.refl _ _⟩

set_option maxHeartbeats 2000000 in
theorem main4 (x0 x1 x2 : Nat) (l : ByteArray) (w : World) (hx0 : x0 ≤ 9223372036854775807) (hx1 : x1 ≤ 9223372036854775807) (hx2 : x2 ≤ 9223372036854775807) :
    Calls Try.prog 4 #[.int .i64 x0, .int .i64 x1, .int .i64 x2, .string l] w fun e w' => e = .returned (.bool true) ∧ Below w.heap.size w w' := by
  obtain ⟨c0, dc0, hc0⟩ := dc_exists x0 hx0
  obtain ⟨c1, dc1, hc1⟩ := dc_exists x1 hx1
  obtain ⟨c2, dc2, hc2⟩ := dc_exists x2 hx2
  have D0 : Hid (IsDc x0 c0) := dc0
  have D1 : Hid (IsDc x1 c1) := dc1
  have D2 : Hid (IsDc x2 c2) := dc2
  clear dc0 dc1 dc2
  go_enter Try.func4, Try.ntmps4
  go_wp2_with fail
  refine (zzb9 x0 x1 x2 l _).mono ?_
  rintro e w0 ⟨⟨x, rfl⟩, rfl⟩
  cases x with
  | false =>
    go_wp2_with fail
    go_ret
    exact ⟨rfl, Below.refl _ _⟩
  | true =>
    by_cases h2 : 65536 < l.size
    · go_wp2_with fail
      go_ret
      exact ⟨rfl, Below.refl _ _⟩
    go_wp2_with fail
    refine (layoutSafe l _ (by omega)).mono ?_
    rintro e w1 ⟨⟨x, rfl, hx⟩, rfl⟩
    cases x with
    | false =>
      go_wp2_with fail
      go_ret
      exact ⟨rfl, Below.refl _ _⟩
    | true =>
      have hsafe := hx rfl
      clear hx
      have n0 : decide ((x0 : Int) < 0) = false := by simp
      have n1 : decide ((x1 : Int) < 0) = false := by simp
      have n2 : decide ((x2 : Int) < 0) = false := by simp
      go_wp2_with fail
      refine (groupWidths l _ (by omega) hsafe).mono ?_
      rintro e w2 ⟨rfl, hb2⟩
      unfold widV
      have HB2 : Hid (Below w1.heap.size w1 w2) := hb2
      clear hb2 n0 n1 n2
      by_cases g0 : wid l 0 l.size < c0
      · have d0 : decide ((wid l 0 l.size : Int) < (c0 : Int)) = true := by simp; omega
        go_wp2_with fail
        go_quiet ((first | (go_at_call_of 11 x0; exact Calls.quiet_of_same (digitCount x0 c0 D0.out hx0 hc0 _)) | (go_at_call_of 11 x1; exact Calls.quiet_of_same (digitCount x1 c1 D1.out hx1 hc1 _)) | (go_at_call_of 11 x2; exact Calls.quiet_of_same (digitCount x2 c2 D2.out hx2 hc2 _))))
        go_wp2
        go_ret
        exact ⟨rfl, below_drewN (HB2.out.alloc HB2.out.size _) _⟩
      have d0 : decide ((wid l 0 l.size : Int) < (c0 : Int)) = false := by simp; omega
      by_cases g1 : wid l 1 l.size < c1
      · have d1 : decide ((wid l 1 l.size : Int) < (c1 : Int)) = true := by simp; omega
        go_wp2_with fail
        go_quiet ((first | (go_at_call_of 11 x0; exact Calls.quiet_of_same (digitCount x0 c0 D0.out hx0 hc0 _)) | (go_at_call_of 11 x1; exact Calls.quiet_of_same (digitCount x1 c1 D1.out hx1 hc1 _)) | (go_at_call_of 11 x2; exact Calls.quiet_of_same (digitCount x2 c2 D2.out hx2 hc2 _))))
        go_wp2
        go_ret
        exact ⟨rfl, below_drewN (HB2.out.alloc HB2.out.size _) _⟩
      have d1 : decide ((wid l 1 l.size : Int) < (c1 : Int)) = false := by simp; omega
      by_cases g2 : wid l 2 l.size < c2
      · have d2 : decide ((wid l 2 l.size : Int) < (c2 : Int)) = true := by simp; omega
        go_wp2_with fail
        go_quiet ((first | (go_at_call_of 11 x0; exact Calls.quiet_of_same (digitCount x0 c0 D0.out hx0 hc0 _)) | (go_at_call_of 11 x1; exact Calls.quiet_of_same (digitCount x1 c1 D1.out hx1 hc1 _)) | (go_at_call_of 11 x2; exact Calls.quiet_of_same (digitCount x2 c2 D2.out hx2 hc2 _))))
        go_wp2
        go_ret
        exact ⟨rfl, below_drewN (HB2.out.alloc HB2.out.size _) _⟩
      have d2 : decide ((wid l 2 l.size : Int) < (c2 : Int)) = false := by simp; omega
      go_wp2_with fail
      go_quiet ((first | (go_at_call_of 11 x0; exact Calls.quiet_of_same (digitCount x0 c0 D0.out hx0 hc0 _)) | (go_at_call_of 11 x1; exact Calls.quiet_of_same (digitCount x1 c1 D1.out hx1 hc1 _)) | (go_at_call_of 11 x2; exact Calls.quiet_of_same (digitCount x2 c2 D2.out hx2 hc2 _))))
      have HX : Hid (∀ j, j < 3 → xs3 x0 x1 x2 j < 10 ^ wid l j l.size ∧ xs3 x0 x1 x2 j ≤ 9223372036854775807) := by
        intro j hj
        match j, hj with
        | 0, _ => exact ⟨Nat.lt_of_lt_of_le D0.out.lt (pow_le _ _ (by omega)), hx0⟩
        | 1, _ => exact ⟨Nat.lt_of_lt_of_le D1.out.lt (pow_le _ _ (by omega)), hx1⟩
        | 2, _ => exact ⟨Nat.lt_of_lt_of_le D2.out.lt (pow_le _ _ (by omega)), hx2⟩
      clear d0 d1 d2 g0 g1 g2 hc0 hc1 hc2 D0 D1 D2
      have HB3 : Hid (Below w1.heap.size w1 ((w2.alloc (.cells #[.int .i64 (wid l 0 l.size), .int .i64 (wid l 1 l.size), .int .i64 (wid l 2 l.size)] 24)).drewN nq)) := below_drewN (HB2.out.alloc HB2.out.size _) _
      have hs2 := HB2.out.size
      obtain ⟨W', cap, hrun, hbrow, hbelW⟩ := conv_bytes' l ((w2.alloc (.cells #[.int .i64 (wid l 0 l.size), .int .i64 (wid l 1 l.size), .int .i64 (wid l 2 l.size)] 24)).drewN nq) (w2.heap.size + 1) (by simp)
      have HB4 : Hid (Below w1.heap.size w1 W') := HB3.out.trans (hbelW.mono (by simp; omega))
      clear HB3 hbelW
      have hbl := get_bt l
      go_wp2
      clear hrun
      go_loop [12, 13] (fun c i => ∃ k : Nat, k ≤ l.size ∧ i = .int .i64 k ∧ c = .int .i64 (sepN l k)) (fun _ i => l.size - (intOf i).toNat)
      case atStart => exact ⟨0, Nat.zero_le _, rfl, rfl⟩
      case round =>
        obtain ⟨k, hk, rfl, rfl⟩ := hrel
        have hsl := sepN_le l k
        by_cases hlt : k < l.size
        · by_cases h48 : bt l k = 48
          · have hq : (bt l k != 48) = false := by simp [h48]
            have HS : Hid (sepN l (k + 1) = sepN l k) := sepN_zero h48
            clear h48
            go_wp2
            go_round
            case rel => exact ⟨k + 1, by omega, by go_num, by rw [HS.out]⟩
            case measure => simp [intOf]; omega
          · have hq : (bt l k != 48) = true := by simp [h48]
            have HS : Hid (sepN l (k + 1) = sepN l k + 1) := sepN_sep h48
            go_wp2
            go_round
            case rel => exact ⟨k + 1, by omega, by go_num, by rw [HS.out]; go_num⟩
            case measure => simp [intOf]; omega
        · obtain rfl : l.size = k := by omega
          go_wp2
          have hB1 : w2.heap.size + 1 < W'.heap.size := hbrow.lt
          have HI : Hid (ByteRow (W'.alloc (.cells #[.int .i64 x0, .int .i64 x1, .int .i64 x2] 24)) (w2.heap.size + 1) l.size (fun k => .int .u8 (bt l k)) ∧ (W'.alloc (.cells #[.int .i64 x0, .int .i64 x1, .int .i64 x2] 24)).rowIs W'.heap.size 24 3 (fun j => .int .i64 (xs3 x0 x1 x2 j)) ∧ Below w1.heap.size w1 (W'.alloc (.cells #[.int .i64 x0, .int .i64 x1, .int .i64 x2] 24))) :=
            ⟨hbrow.alloc _, rowX W' x0 x1 x2, HB4.out.alloc HB4.out.size _⟩
          clear hbrow hlt hk
          generalize hX : xs3 x0 x1 x2 = X at HX HI
          have HXX : Hid (xs3 x0 x1 x2 = X) := hX
          clear hX
          go_loopw [12, 14] (fun c i wi => ∃ m : Nat, m ≤ l.size ∧ i = .int .i64 ((m : Int) - 1) ∧ c = .int .i64 (sepN l m) ∧ ByteRow wi (w2.heap.size + 1) l.size (fun k => .int .u8 (if m ≤ k then (wr8 l X k : Int) else bt l k)) ∧ wi.rowIs W'.heap.size 24 3 (fun j => .int .i64 ((X j / 10 ^ rem l j m : Nat) : Int)) ∧ Below w1.heap.size w1 wi) (fun _ i _ => (intOf i + 1).toNat)
          case atStart => exact ⟨l.size, Nat.le_refl _, rfl, rfl, HI.out.1.congr (fun i hi => by rw [if_neg (by omega)]), HI.out.2.1.congr (fun j _ => by rw [rem_end, Nat.pow_zero, Nat.div_one]), HI.out.2.2⟩
          case round =>
            obtain ⟨m, hm, rfl, rfl, hbrow, hrow, hbel⟩ := hrel
            have hsl2 := sepN_le l m
            by_cases hpos : 0 < m
            · obtain ⟨i, rfl⟩ : ∃ i, m = i + 1 := ⟨m - 1, by omega⟩
              have hil : i < l.size := by omega
              have ei : ((i + 1 : Nat) : Int) - 1 = (i : Int) := by omega
              rw [ei]
              clear ei
              by_cases h48 : bt l i = 48
              · have hq : (bt l i != 48) = false := by simp [h48]
                have hg := hsafe i hil h48
                have HS : Hid (sepN l (i + 1) = sepN l i) := sepN_zero h48
                have H48 : Hid (bt l i = 48) := h48
                rw [HS.out]
                clear h48
                have a0 := hrow.cell (i := sepN l i) (by omega)
                have f0 := hrow.frozen (sepN l i)
                have b0 := hbrow.cell (i := i) hil
                have f1 := hbrow.frozen (i := i) hil
                have hXb : X (sepN l i) ≤ 9223372036854775807 := (HX.out _ (by omega)).2
                have hY : X (sepN l i) / 10 ^ rem l (sepN l i) (i + 1) ≤ X (sepN l i) := Nat.div_le_self _ _
                have HW : Hid ((wr8 l X i : Int) = 48 + ((X (sepN l i) / 10 ^ rem l (sepN l i) (i + 1) : Nat) : Int) % 10) := by
                  show (wr8 l X i : Int) = _
                  unfold wr8
                  rw [if_pos H48.out]
                  omega
                have HQ : Hid (X (sepN l i) / 10 ^ rem l (sepN l i) i = X (sepN l i) / 10 ^ rem l (sepN l i) (i + 1) / 10) := by
                  show _ = _
                  rw [rem_hit hil H48.out rfl, Nat.pow_succ, Nat.div_div_eq_div_mul]
                generalize hy : X (sepN l i) / 10 ^ rem l (sepN l i) (i + 1) = y at a0 hY HW HQ
                have HY : Hid (X (sepN l i) / 10 ^ rem l (sepN l i) (i + 1) = y) := hy
                clear hy
                have hne : ¬ w2.heap.size + 1 = W'.heap.size := by omega
                have hne' : ¬ W'.heap.size = w2.heap.size + 1 := by omega
                go_wp2
                go_roundw
                case rel =>
                  refine ⟨i, by omega, by go_num, rfl, ?_, ?_, ?_⟩
                  · refine ((hbrow.set i _).setOther (by simpa using hne) _).congr (fun k hk => ?_)
                    by_cases e : k = i
                    · subst e
                      rw [if_pos rfl, if_pos (Nat.le_refl _), HW.out]
                    · rw [if_neg e]
                      by_cases h : i + 1 ≤ k
                      · rw [if_pos h, if_pos (by omega)]
                      · rw [if_neg h, if_neg (by omega)]
                  · refine ((hrow.setOther (by simpa using hne') _).set (sepN l i) _).congr (fun j _ => ?_)
                    by_cases e : j = sepN l i
                    · subst e
                      rw [if_pos rfl, HQ.out]
                      go_num
                    · rw [if_neg e, rem_miss (fun hh => e hh.2.symm)]
                  · exact (hbel.setCell (by simp; omega) _).setCell (by simp; omega) _
                case measure => first | (simp [intOf]; done) | (simp [intOf]; omega)
              · have hq : (bt l i != 48) = true := by simp [h48]
                have HS : Hid (sepN l (i + 1) = sepN l i + 1) := sepN_sep h48
                have hsl3 := sepN_le l i
                rw [HS.out]
                go_wp2
                go_roundw
                case rel => exact ⟨i, by omega, by go_num, by go_num, hbrow.congr (fun k hk => by
                    by_cases e : k = i
                    · subst e
                      rw [if_neg (by omega), if_pos (Nat.le_refl _)]
                      unfold wr8
                      rw [if_neg h48]
                      have := bt_nonneg l k
                      go_num
                    · by_cases h : i + 1 ≤ k
                      · rw [if_pos h, if_pos (by omega)]
                      · rw [if_neg h, if_neg (by omega)]), hrow.congr (fun j _ => by rw [rem_miss (fun hh => h48 hh.1)]), hbel⟩
                case measure => first | (simp [intOf]; done) | (simp [intOf]; omega)
            · obtain rfl : 0 = m := by omega
              have hcb := conv_back l X (cap := cap) (hbrow.congr (fun k hk => by rw [if_pos (by omega)]))
              go_wp2_with fail
              refine (zzReadEq ⟨(written l X).toArray⟩ l _ (by rw [size_written]; omega) (size_written l X) hsafe).mono ?_
              rintro e w5 ⟨⟨p, hp, rfl⟩, hb5⟩
              obtain rfl := hp.one (mis_written l X)
              have hok : decide (l.size = (⟨(written l X).toArray⟩ : ByteArray).size) = true := by rw [size_written]; simp
              have hag : aggV ⟨(written l X).toArray⟩ l l.size = .agg #[.int .i64 x0, .int .i64 x1, .int .i64 x2] := by
                unfold aggV
                rw [V_written l X 0 (HX.out 0 (by omega)).1 (HX.out 0 (by omega)).2, V_written l X 1 (HX.out 1 (by omega)).1 (HX.out 1 (by omega)).2, V_written l X 2 (HX.out 2 (by omega)).1 (HX.out 2 (by omega)).2, ← HXX.out]
                rfl
              rw [hok, hag]
              clear hok hag hcb
              have heql := Try.eql24 x0 x1 x2
              go_wp2
              go_ret
              exact ⟨rfl, (hbel.trans (hb5.mono hbel.size)).alloc (Nat.le_trans hbel.size hb5.size) _⟩
end Go.Proofs.Qxb6602266a

import Derived.Test.Qxb6602266aRead
import Derived.Deep.QuietTactic
import Derived.BigQuiet
namespace Go.Proofs.Qxb6602266a
open Go.RowKit Go.PlainAid
set_option linter.unusedVariables false

set_option maxHeartbeats 1000000 in
theorem modelNe (s l : ByteArray) (w : World) (hne : s.size ≠ l.size) : Calls Try.prog 8 #[.string s, .string l] w fun e w' => e = zeroRet ∧ Below w.heap.size w w' := by
  have hq : ((s.size : Int) != (l.size : Int)) = true := by simp; omega
  go_enter Try.func8, Try.ntmps8
  go_wp2
  exact bodyPost_ret (v := .tuple #[.agg #[.int .i64 0, .int .i64 0, .int .i64 0], .bool false]) (by simp [results, Try.results8, go_sem]) rfl ⟨rfl, ((Below.refl _ _).alloc (Nat.le_refl _) _).alloc (by simp) _⟩

theorem row0 (w : World) : (w.alloc (.cells #[.int .i64 0, .int .i64 0, .int .i64 0] 24)).rowIs w.heap.size 24 3 (fun _ => .int .i64 0) := by
  refine ⟨_, heap_alloc_new _ _, rfl, fun i hi => ?_⟩
  match i, hi with
  | 0, _ => rfl
  | 1, _ => rfl
  | 2, _ => rfl
theorem row1 (w : World) : (w.alloc (.cells #[.int .i64 1, .int .i64 1, .int .i64 1] 24)).rowIs w.heap.size 24 3 (fun _ => .int .i64 1) := by
  refine ⟨_, heap_alloc_new _ _, rfl, fun i hi => ?_⟩
  match i, hi with
  | 0, _ => rfl
  | 1, _ => rfl
  | 2, _ => rfl

set_option maxHeartbeats 2000000 in
theorem modelEq (s l : ByteArray) (w : World) (hs : s.size ≤ 65536) (heq : s.size = l.size) (hsafe : Safe l) : Calls Try.prog 8 #[.string s, .string l] w fun e w' => RdRet s l e ∧ Below w.heap.size w w' := by
  have hq0 : ((s.size : Int) != (l.size : Int)) = false := by simp; omega
  have hbs := get_bt s
  have hbl := get_bt l
  have HE : Hid (s.size = l.size) := heq
  have hle : s.size ≤ l.size := by omega
  clear heq
  go_enter Try.func8, Try.ntmps8
  go_wp2
  go_loopw [7, 8] (fun p i wr => ∃ k : Nat, k ≤ s.size ∧ i = .int .i64 k ∧ p = .int .i64 s.size ∧ (∀ i, i < k → fitB (bt s i) (bt l i) = true) ∧ wr.rowIs w.heap.size 24 3 (fun _ => .int .i64 0) ∧ wr.rowIs (w.heap.size + 1) 24 3 (fun _ => .int .i64 0) ∧ Below w.heap.size w wr) (fun _ i _ => s.size - (intOf i).toNat)
  case atStart =>
    refine ⟨0, Nat.zero_le _, rfl, rfl, fun i h => absurd h (by omega), (row0 w).alloc _, ?_, ((Below.refl _ _).alloc (Nat.le_refl _) _).alloc (by simp) _⟩
    have := row0 (w.alloc (.cells #[.int .i64 0, .int .i64 0, .int .i64 0] 24))
    simpa using this
  case round =>
    obtain ⟨k, hk, rfl, rfl, hfit, hrow, hrow1, hbel⟩ := hrel
    by_cases hgo : k < s.size ∧ fitB (bt s k) (bt l k) = true
    · obtain ⟨hlt, hf⟩ := hgo
      have hkl : k < l.size := by omega
      go_wp2
      go_quiet ((go_at_call 13; exact Calls.quiet_of_same (fitsAt _ _ _)))
      go_wp2
      go_roundw
      case rel => exact ⟨k + 1, by omega, by go_num, rfl, fits_snoc hfit hf, hrow, hrow1, below_drewN hbel _⟩
      case measure => simp [intOf]; omega
    · have hmis : Mis s l k := ⟨hk, hfit, fun h => by
        cases hh : fitB (bt s k) (bt l k) with
        | false => rfl
        | true => exact absurd ⟨h, hh⟩ hgo⟩
      have HM : Hid (Mis s l k) := hmis
      by_cases hlt : k < s.size
      · have hf := hmis.stop hlt
        have hkl : k < l.size := by omega
        clear hgo hmis hfit
        go_wp2
        go_quiet ((go_at_call 13; exact Calls.quiet_of_same (fitsAt _ _ _)))
        go_wp2
        have HI : Hid ((wr.drewN nq).rowIs w.heap.size 24 3 (fun _ => .int .i64 0) ∧ (wr.drewN nq).rowIs (w.heap.size + 1) 24 3 (fun _ => .int .i64 0) ∧ Below w.heap.size w (wr.drewN nq)) := ⟨hrow, hrow1, below_drewN hbel _⟩
        clear hrow hrow1 hbel
        go_loopw [9, 10] (fun c i wr => ∃ k2 : Nat, k2 ≤ k ∧ i = .int .i64 k2 ∧ c = .int .i64 (sepN l k2) ∧ wr.rowIs w.heap.size 24 3 (fun _ => .int .i64 0) ∧ wr.rowIs (w.heap.size + 1) 24 3 (fun _ => .int .i64 0) ∧ Below w.heap.size w wr) (fun _ i _ => k - (intOf i).toNat)
        case atStart => exact ⟨0, Nat.zero_le _, rfl, rfl, HI.out.1, HI.out.2.1, HI.out.2.2⟩
        case round =>
          obtain ⟨k2, hk2, rfl, rfl, hrow, hrow1, hbel⟩ := hrel
          have hsl := sepN_le l k2
          by_cases hlt2 : k2 < k
          · have hkl2 : k2 < l.size := by omega
            by_cases h48 : bt l k2 = 48
            · have hq : (bt l k2 != 48) = false := by simp [h48]
              have HS : Hid (sepN l (k2 + 1) = sepN l k2) := sepN_zero h48
              clear h48
              go_wp2
              go_roundw
              case rel => exact ⟨k2 + 1, by omega, by go_num, by rw [HS.out], hrow, hrow1, hbel⟩
              case measure => simp [intOf]; omega
            · have hq : (bt l k2 != 48) = true := by simp [h48]
              have HS : Hid (sepN l (k2 + 1) = sepN l k2 + 1) := sepN_sep h48
              go_wp2
              go_roundw
              case rel => exact ⟨k2 + 1, by omega, by go_num, by rw [HS.out]; go_num, hrow, hrow1, hbel⟩
              case measure => simp [intOf]; omega
          · obtain rfl : k = k2 := by omega
            clear hlt2 hk2
            have hB1 : w.heap.size + 1 < wr.heap.size := hrow1.lt
            obtain ⟨wo, rfl⟩ : ∃ wo : World, wo = wr := ⟨_, rfl⟩
            have HI3 : Hid ((wo.alloc (.cells #[.int .i64 1, .int .i64 1, .int .i64 1] 24)).rowIs w.heap.size 24 3 (fun _ => .int .i64 0) ∧ (wo.alloc (.cells #[.int .i64 1, .int .i64 1, .int .i64 1] 24)).rowIs (w.heap.size + 1) 24 3 (fun j => .int .i64 ((fun _ => (0 : Int)) j)) ∧ (wo.alloc (.cells #[.int .i64 1, .int .i64 1, .int .i64 1] 24)).rowIs wo.heap.size 24 3 (fun j => .int .i64 ((fun _ => (1 : Int)) j)) ∧ Below w.heap.size w (wo.alloc (.cells #[.int .i64 1, .int .i64 1, .int .i64 1] 24))) :=
              ⟨hrow.alloc _, hrow1.alloc _, row1 wo, hbel.alloc hbel.size _⟩
            clear hrow hrow1 hbel
            go_wp2
            go_loopw [9, 12] (fun c i wi => ∃ (m : Nat) (N P : Nat → Int), m ≤ k ∧ i = .int .i64 ((m : Int) - 1) ∧ c = .int .i64 (sepN l m) ∧ Right s l (k) m N P ∧ wi.rowIs w.heap.size 24 3 (fun _ => .int .i64 0) ∧ wi.rowIs (w.heap.size + 1) 24 3 (fun j => .int .i64 (N j)) ∧ wi.rowIs wo.heap.size 24 3 (fun j => .int .i64 (P j)) ∧ Below w.heap.size w wi) (fun _ i _ => (intOf i + 1).toNat)
            case atStart => exact ⟨k, _, _, Nat.le_refl _, rfl, rfl, Right.start _ _ _, HI3.out.1, HI3.out.2.1, HI3.out.2.2.1, HI3.out.2.2.2⟩
            case round =>
              obtain ⟨m, N, P, hm, rfl, rfl, hright, hrow0, hrow1, hrow2, hbel⟩ := hrel
              have hsl2 := sepN_le l m
              by_cases hpos : 0 < m
              · obtain ⟨i, rfl⟩ : ∃ i, m = i + 1 := ⟨m - 1, by omega⟩
                have hil : i < l.size := by omega
                have his : i < s.size := by omega
                have ei : ((i + 1 : Nat) : Int) - 1 = (i : Int) := by omega
                rw [ei]
                clear ei
                by_cases h48 : bt l i = 48
                · have hq : (bt l i != 48) = false := by simp [h48]
                  have hg := hsafe i hil h48
                  have HS : Hid (sepN l (i + 1) = sepN l i) := sepN_zero h48
                  have HD := hright.digit h48
                  have hfi : 48 ≤ bt s i ∧ bt s i ≤ 57 := by
                    have h5 := HM.out.fits i (by omega)
                    rw [fit_dig h48] at h5
                    simpa using h5
                  obtain ⟨hd1, hd2⟩ := hfi
                  have H48 : Hid (bt l i = 48) := h48
                  rw [HS.out]
                  clear h48 hright
                  have a0 := hrow1.cell (i := sepN l i) (by omega)
                  have a1 := hrow2.cell (i := sepN l i) (by omega)
                  have f0 := hrow1.frozen (sepN l i)
                  have f1 := hrow2.frozen (sepN l i)
                  have g0 : (0 : Int) ≤ (sepN l i : Int) := by omega
                  have g1 : (sepN l i : Int) < 3 := by omega
                  have hne : ¬ w.heap.size + 1 = wo.heap.size := by omega
                  have hne' : ¬ wo.heap.size = w.heap.size + 1 := by omega
                  go_wp2
                  go_region
                  all_goals go_wp2
                  go_roundw
                  case rel =>
                    refine ⟨i, _, _, by omega, by go_num, rfl, HD, ?_, ?_, ?_, ?_⟩
                    · exact ((hrow0.setOther (by simp) _).setOther (by simp; omega) _).drew
                    · exact ((((hrow1.set _ _).setOther (by simpa using hne) _).drew).congr (fun j _ => by by_cases e : j = sepN l i; (subst e; rw [if_pos rfl, if_pos rfl]); (rw [if_neg e, if_neg e])))
                    · exact ((((hrow2.setOther (by simpa using hne') _).set _ _).drew).congr (fun j _ => by by_cases e : j = sepN l i; (subst e; rw [if_pos rfl, if_pos rfl]); (rw [if_neg e, if_neg e])))
                    · exact ((hbel.setCell (by simp) _).setCell (by simp; omega) _).drew
                  case measure => first | (simp [intOf]; done) | (simp [intOf]; omega)
                · have hq : (bt l i != 48) = true := by simp [h48]
                  have HS : Hid (sepN l (i + 1) = sepN l i + 1) := sepN_sep h48
                  have hsl3 := sepN_le l i
                  rw [HS.out]
                  go_wp2
                  go_roundw
                  case rel => exact ⟨i, N, P, by omega, by go_num, by go_num, hright.sep h48, hrow0, hrow1, hrow2, hbel⟩
                  case measure => first | (simp [intOf]; done) | (simp [intOf]; omega)
              · obtain rfl : 0 = m := by omega
                have HN : Hid (∀ j, N j = V s l k j) := hright.done
                have a0 := hrow1.cell (i := 0) (by omega)
                have a1 := hrow1.cell (i := 1) (by omega)
                have a2 := hrow1.cell (i := 2) (by omega)
                have b0 := hrow0.cell (i := 0) (by omega)
                have b1 := hrow0.cell (i := 1) (by omega)
                have b2 := hrow0.cell (i := 2) (by omega)
                have f0 := hrow0.frozen 0
                have f1 := hrow0.frozen 1
                have f2 := hrow0.frozen 2
                have hkn : ((k : Int) == (s.size : Int)) = false := by rw [beq_eq_false_iff_ne]; omega
                go_wp2
                obtain ⟨q0, q1, q2⟩ := three_set hrow0 (.int .i64 (N 0)) (.int .i64 (N 1)) (.int .i64 (N 2))
                have hag : Value.agg #[.int .i64 (N 0), .int .i64 (N 1), .int .i64 (N 2)] = aggV s l k := by unfold aggV; rw [HN.out, HN.out, HN.out]
                exact bodyPost_ret (v := .tuple #[.agg #[.int .i64 (N 0), .int .i64 (N 1), .int .i64 (N 2)], .bool false]) (by simp [results, Try.results8, go_sem, q0, q1, q2]) rfl ⟨by rw [hag]; exact rd_no HM.out hlt, three_below hbel _ _ _⟩
      · have HM2 : Hid (Mis s l s.size) := by
          have e : k = s.size := by omega
          rw [← e]; exact hmis
        clear hgo hmis hfit
        have HI : Hid (wr.rowIs w.heap.size 24 3 (fun _ => .int .i64 0) ∧ wr.rowIs (w.heap.size + 1) 24 3 (fun _ => .int .i64 0) ∧ Below w.heap.size w wr) := ⟨hrow, hrow1, hbel⟩
        go_wp2
        clear hrow hrow1 hbel
        go_loopw [9, 10] (fun c i wr => ∃ k2 : Nat, k2 ≤ s.size ∧ i = .int .i64 k2 ∧ c = .int .i64 (sepN l k2) ∧ wr.rowIs w.heap.size 24 3 (fun _ => .int .i64 0) ∧ wr.rowIs (w.heap.size + 1) 24 3 (fun _ => .int .i64 0) ∧ Below w.heap.size w wr) (fun _ i _ => s.size - (intOf i).toNat)
        case atStart => exact ⟨0, Nat.zero_le _, rfl, rfl, HI.out.1, HI.out.2.1, HI.out.2.2⟩
        case round =>
          obtain ⟨k2, hk2, rfl, rfl, hrow, hrow1, hbel⟩ := hrel
          have hsl := sepN_le l k2
          by_cases hlt2 : k2 < s.size
          · have hkl2 : k2 < l.size := by omega
            by_cases h48 : bt l k2 = 48
            · have hq : (bt l k2 != 48) = false := by simp [h48]
              have HS : Hid (sepN l (k2 + 1) = sepN l k2) := sepN_zero h48
              clear h48
              go_wp2
              go_roundw
              case rel => exact ⟨k2 + 1, by omega, by go_num, by rw [HS.out], hrow, hrow1, hbel⟩
              case measure => simp [intOf]; omega
            · have hq : (bt l k2 != 48) = true := by simp [h48]
              have HS : Hid (sepN l (k2 + 1) = sepN l k2 + 1) := sepN_sep h48
              go_wp2
              go_roundw
              case rel => exact ⟨k2 + 1, by omega, by go_num, by rw [HS.out]; go_num, hrow, hrow1, hbel⟩
              case measure => simp [intOf]; omega
          · obtain rfl : s.size = k2 := by omega
            clear hlt2 hk2
            have hB1 : w.heap.size + 1 < wr.heap.size := hrow1.lt
            obtain ⟨wo, rfl⟩ : ∃ wo : World, wo = wr := ⟨_, rfl⟩
            have HI3 : Hid ((wo.alloc (.cells #[.int .i64 1, .int .i64 1, .int .i64 1] 24)).rowIs w.heap.size 24 3 (fun _ => .int .i64 0) ∧ (wo.alloc (.cells #[.int .i64 1, .int .i64 1, .int .i64 1] 24)).rowIs (w.heap.size + 1) 24 3 (fun j => .int .i64 ((fun _ => (0 : Int)) j)) ∧ (wo.alloc (.cells #[.int .i64 1, .int .i64 1, .int .i64 1] 24)).rowIs wo.heap.size 24 3 (fun j => .int .i64 ((fun _ => (1 : Int)) j)) ∧ Below w.heap.size w (wo.alloc (.cells #[.int .i64 1, .int .i64 1, .int .i64 1] 24))) :=
              ⟨hrow.alloc _, hrow1.alloc _, row1 wo, hbel.alloc hbel.size _⟩
            clear hrow hrow1 hbel
            go_wp2
            go_loopw [9, 12] (fun c i wi => ∃ (m : Nat) (N P : Nat → Int), m ≤ s.size ∧ i = .int .i64 ((m : Int) - 1) ∧ c = .int .i64 (sepN l m) ∧ Right s l (s.size) m N P ∧ wi.rowIs w.heap.size 24 3 (fun _ => .int .i64 0) ∧ wi.rowIs (w.heap.size + 1) 24 3 (fun j => .int .i64 (N j)) ∧ wi.rowIs wo.heap.size 24 3 (fun j => .int .i64 (P j)) ∧ Below w.heap.size w wi) (fun _ i _ => (intOf i + 1).toNat)
            case atStart => exact ⟨s.size, _, _, Nat.le_refl _, rfl, rfl, Right.start _ _ _, HI3.out.1, HI3.out.2.1, HI3.out.2.2.1, HI3.out.2.2.2⟩
            case round =>
              obtain ⟨m, N, P, hm, rfl, rfl, hright, hrow0, hrow1, hrow2, hbel⟩ := hrel
              have hsl2 := sepN_le l m
              by_cases hpos : 0 < m
              · obtain ⟨i, rfl⟩ : ∃ i, m = i + 1 := ⟨m - 1, by omega⟩
                have hil : i < l.size := by omega
                have his : i < s.size := by omega
                have ei : ((i + 1 : Nat) : Int) - 1 = (i : Int) := by omega
                rw [ei]
                clear ei
                by_cases h48 : bt l i = 48
                · have hq : (bt l i != 48) = false := by simp [h48]
                  have hg := hsafe i hil h48
                  have HS : Hid (sepN l (i + 1) = sepN l i) := sepN_zero h48
                  have HD := hright.digit h48
                  have hfi : 48 ≤ bt s i ∧ bt s i ≤ 57 := by
                    have h5 := HM2.out.fits i (by omega)
                    rw [fit_dig h48] at h5
                    simpa using h5
                  obtain ⟨hd1, hd2⟩ := hfi
                  have H48 : Hid (bt l i = 48) := h48
                  rw [HS.out]
                  clear h48 hright
                  have a0 := hrow1.cell (i := sepN l i) (by omega)
                  have a1 := hrow2.cell (i := sepN l i) (by omega)
                  have f0 := hrow1.frozen (sepN l i)
                  have f1 := hrow2.frozen (sepN l i)
                  have g0 : (0 : Int) ≤ (sepN l i : Int) := by omega
                  have g1 : (sepN l i : Int) < 3 := by omega
                  have hne : ¬ w.heap.size + 1 = wo.heap.size := by omega
                  have hne' : ¬ wo.heap.size = w.heap.size + 1 := by omega
                  go_wp2
                  go_region
                  all_goals go_wp2
                  go_roundw
                  case rel =>
                    refine ⟨i, _, _, by omega, by go_num, rfl, HD, ?_, ?_, ?_, ?_⟩
                    · exact ((hrow0.setOther (by simp) _).setOther (by simp; omega) _).drew
                    · exact ((((hrow1.set _ _).setOther (by simpa using hne) _).drew).congr (fun j _ => by by_cases e : j = sepN l i; (subst e; rw [if_pos rfl, if_pos rfl]); (rw [if_neg e, if_neg e])))
                    · exact ((((hrow2.setOther (by simpa using hne') _).set _ _).drew).congr (fun j _ => by by_cases e : j = sepN l i; (subst e; rw [if_pos rfl, if_pos rfl]); (rw [if_neg e, if_neg e])))
                    · exact ((hbel.setCell (by simp) _).setCell (by simp; omega) _).drew
                  case measure => first | (simp [intOf]; done) | (simp [intOf]; omega)
                · have hq : (bt l i != 48) = true := by simp [h48]
                  have HS : Hid (sepN l (i + 1) = sepN l i + 1) := sepN_sep h48
                  have hsl3 := sepN_le l i
                  rw [HS.out]
                  go_wp2
                  go_roundw
                  case rel => exact ⟨i, N, P, by omega, by go_num, by go_num, hright.sep h48, hrow0, hrow1, hrow2, hbel⟩
                  case measure => first | (simp [intOf]; done) | (simp [intOf]; omega)
              · obtain rfl : 0 = m := by omega
                have HN : Hid (∀ j, N j = V s l s.size j) := hright.done
                have a0 := hrow1.cell (i := 0) (by omega)
                have a1 := hrow1.cell (i := 1) (by omega)
                have a2 := hrow1.cell (i := 2) (by omega)
                have b0 := hrow0.cell (i := 0) (by omega)
                have b1 := hrow0.cell (i := 1) (by omega)
                have b2 := hrow0.cell (i := 2) (by omega)
                have f0 := hrow0.frozen 0
                have f1 := hrow0.frozen 1
                have f2 := hrow0.frozen 2
                go_wp2
                obtain ⟨q0, q1, q2⟩ := three_set hrow0 (.int .i64 (N 0)) (.int .i64 (N 1)) (.int .i64 (N 2))
                have hag : Value.agg #[.int .i64 (N 0), .int .i64 (N 1), .int .i64 (N 2)] = aggV s l s.size := by unfold aggV; rw [HN.out, HN.out, HN.out]
                exact bodyPost_ret (v := .tuple #[.agg #[.int .i64 (N 0), .int .i64 (N 1), .int .i64 (N 2)], .bool true]) (by simp [results, Try.results8, go_sem, q0, q1, q2]) rfl ⟨by rw [hag]; exact rd_yes HM2.out rfl, three_below hbel _ _ _⟩
end Go.Proofs.Qxb6602266a

/-
  The walk of the law.
-/
import Derived.Test.Qxb6602302aLow
import Derived.Test.Qxb6602302aKosW
import Derived.Test.Qxb6602302aSame
import Derived.Test.Qxb6602302aBytes
import Derived.Test.Qxb6602302aFin
namespace Go.Proofs.Qxb6602302a
open Go.RowKit
set_option linter.unusedVariables false
set_option linter.unusedSimpArgs false

/-- The first v rows lead to nodes only. -/
def DomTo (rows : List (List Int)) (v : Nat) : Prop := ∀ i r, i < v → rows[i]? = some r → ∀ x, x ∈ r → 0 ≤ x ∧ x < rows.length
theorem DomTo.all {rows : List (List Int)} (h : DomTo rows rows.length) : InDom rows := fun r hr x hx => by
  obtain ⟨i, hi⟩ := List.mem_iff_getElem?.1 hr
  exact h i r (List.getElem?_eq_some_iff.1 hi).1 hi x hx
theorem DomTo.step {rows : List (List Int)} {v : Nat} {r : List Int} (h : DomTo rows v) (hr : rows[v]? = some r) (hx : ∀ x, x ∈ r → 0 ≤ x ∧ x < rows.length) : DomTo rows (v + 1) := fun i r' hi hr' => by
  by_cases e : i = v
  · subst e; rw [hr] at hr'; cases hr'; exact hx
  · exact h i r' (by omega) hr'

theorem pre_total {rows : List (List Int)} : (pre (gOf rows) rows.length 0).length = rtot rows := by
  have h : ∀ m, m ≤ rows.length → (pre (gOf rows) m 0).length = rtot (rows.take m) := by
    intro m
    induction m with
    | zero => intro _; simp [pre, rtot]
    | succ m ih =>
      intro hm
      obtain ⟨r, hr⟩ : ∃ r, rows[m]? = some r := ⟨_, List.getElem?_eq_getElem (by omega)⟩
      rw [rtot_snoc hr, ← pre_row, ← ih (by omega), ← gOf_len hr]
      unfold pre
      simp
  have := h rows.length (Nat.le_refl _)
  rwa [List.take_length] at this

theorem gOf_len_le {rows : List (List Int)} (h : rtot rows ≤ 1048576) (v : Nat) : (gOf rows v).length ≤ 1048576 := by
  cases hr : rows[v]? with
  | none => simp [gOf, hr]
  | some r =>
    rw [gOf_len hr]
    exact Nat.le_trans (rtot_mem (List.mem_iff_getElem?.2 ⟨v, hr⟩)) h

theorem total_take (xs : List ByteArray) (k : Nat) : total (xs.take k) ≤ total xs := by
  have h := congrArg total (List.take_append_drop k xs)
  unfold total at h ⊢
  rw [List.map_append, List.sum_append] at h
  omega
theorem rtot_take (rows : List (List Int)) (k : Nat) : rtot (rows.take k) ≤ rtot rows := by
  have h := congrArg rtot (List.take_append_drop k rows)
  unfold rtot at h ⊢
  rw [List.map_append, List.sum_append] at h
  omega

set_option maxRecDepth 8000 in
set_option maxHeartbeats 8000000 in
theorem mainW (ta sa : Option Addr) (tc sc : Nat) (xs : List ByteArray) (rows : List (List Int)) (w : World) (hx : xs.length ≤ 9223372036854775807) (hr : rows.length ≤ 9223372036854775807) (hrl : ∀ r, r ∈ rows → r.length ≤ 9223372036854775807) (ht : StrsOf w ta xs) (hs : RowsOf w sa rows) :
    Calls Try.prog 3 #[.slice ta xs.length tc, .slice sa rows.length sc] w fun e w' => e = .returned (.bool true) ∧ Below w.heap.size w w' := by
  obtain ⟨i3, h3, h3z, h3s, h3b⟩ := info_parts Try.info3
  go_enter Try.func3, Try.ntmps3
  go_wp2_with fail
  refine (zzb7 ta sa tc sc xs rows w hx hr hrl ht hs).mono ?_
  rintro e w' ⟨⟨x, rfl, hshort⟩, hw⟩
  obtain rfl : w = w' := hw.symm
  clear hw
  cases x with
  | false =>
    go_wp2
    go_ret
    exact ⟨rfl, Below.refl _ _⟩
  | true =>
  obtain ⟨htx, htr⟩ := hshort rfl
  clear hshort
  by_cases h1 : 65536 < xs.length
  · go_wp2
    go_ret
    exact ⟨rfl, Below.refl _ _⟩
  by_cases h2 : 65536 < rows.length
  · go_wp2
    go_ret
    exact ⟨rfl, Below.refl _ _⟩
  have d1 : decide ((65536 : Int) < (xs.length : Int)) = false := decide_eq_false (by omega)
  have d2 : decide ((65536 : Int) < (rows.length : Int)) = false := decide_eq_false (by omega)
  go_wp2
  clear d1 d2
  go_loopg [5, 44] xs.length (fun gk s5 s44 wr => wr = w ∧ ∃ k : Nat, k ≤ xs.length ∧ gk = xs.length - k ∧ s44 = .int .i64 (k : Int) ∧ s5 = .int .i64 (8 * (xs.length : Int) + 8 * (rows.length : Int) + (total (xs.take k) : Int)))
  case atStart => exact ⟨rfl, 0, Nat.zero_le _, by omega, rfl, by simp [total]⟩
  case round =>
  obtain ⟨hw, k, hk, hgk, rfl, rfl⟩ := hrel
  obtain rfl : w = wr := hw.symm
  clear hw
  have htk := total_take xs k
  by_cases hlt : k < xs.length
  · as_aux_lemma =>
    rcases ht with rfl | ⟨b, off, rfl, ht⟩
    · simp at hlt
    obtain ⟨x, hxk⟩ : ∃ x, xs[k]? = some x := ⟨_, List.getElem?_eq_getElem hlt⟩
    have c0 := ht k x hxk
    have HT : Hid (total (xs.take (k + 1)) = total (xs.take k) + x.size) := total_snoc hxk
    have htk1 := total_take xs (k + 1)
    rw [HT.out] at htk1
    clear hxk ht
    generalize total (xs.take k) = tk at *
    generalize total xs = tx at *
    by_cases hb : 1048576 < 8 * xs.length + 8 * rows.length + tk + x.size
    · go_wp2
      go_ret
      exact ⟨rfl, Below.refl _ _⟩
    go_wp2
    go_roundg (xs.length - (k + 1))
    case measure => omega
    case rel => exact ⟨rfl, k + 1, by omega, rfl, by go_num, by rw [HT.out]; congr 1; omega⟩
  obtain rfl : k = xs.length := by omega
  rw [List.take_length] at *
  clear htk hlt hk hgk
  have HTX : Hid (StrsOf w ta xs) := ht
  clear ht
  generalize total xs = tx at *
  go_wp2
  go_loopg [5, 59] rows.length (fun gk s5 s59 wr => wr = w ∧ ∃ k : Nat, k ≤ rows.length ∧ gk = rows.length - k ∧ s59 = .int .i64 (k : Int) ∧ s5 = .int .i64 (8 * (xs.length : Int) + 8 * (rows.length : Int) + (tx : Int) + 8 * (rtot (rows.take k) : Int)))
  case atStart => exact ⟨rfl, 0, Nat.zero_le _, by omega, rfl, by simp [rtot]⟩
  case round =>
  obtain ⟨hw, k, hk, hgk, rfl, rfl⟩ := hrel
  obtain rfl : w = wr := hw.symm
  clear hw
  have htk := rtot_take rows k
  by_cases hlt : k < rows.length
  · as_aux_lemma =>
    rcases hs with rfl | ⟨b, off, rfl, hs⟩
    · simp at hlt
    obtain ⟨r, hrk⟩ : ∃ r, rows[k]? = some r := ⟨_, List.getElem?_eq_getElem hlt⟩
    obtain ⟨ra, rc, c0, _⟩ := hs k r hrk
    have HT : Hid (rtot (rows.take (k + 1)) = rtot (rows.take k) + r.length) := rtot_snoc hrk
    have htk1 := rtot_take rows (k + 1)
    rw [HT.out] at htk1
    clear hrk hs
    generalize rtot (rows.take k) = tk at *
    generalize rtot rows = tr at *
    by_cases hb : 1048576 < 8 * xs.length + 8 * rows.length + tx + 8 * (tk + r.length)
    · go_wp2
      go_ret
      exact ⟨rfl, Below.refl _ _⟩
    go_wp2
    go_roundg (rows.length - (k + 1))
    case measure => omega
    case rel => exact ⟨rfl, k + 1, by omega, rfl, by go_num, by rw [HT.out]; congr 1; omega⟩
  obtain rfl : k = rows.length := by omega
  rw [List.take_length] at *
  clear htk hlt hk hgk
  have HTR : Hid (rtot rows ≤ 1048576) := htr
  generalize rtot rows = tr at htr ⊢
  by_cases hb : 1048576 < 8 * xs.length + 8 * rows.length + tx + 8 * tr
  · as_aux_lemma =>
    go_wp2
    go_ret
    exact ⟨rfl, Below.refl _ _⟩
  by_cases hxe : xs.length = rows.length
  rotate_left
  · as_aux_lemma =>
    have hq : ((rows.length : Int) != (xs.length : Int)) = true := by simp; omega
    go_wp2
    go_ret
    exact ⟨rfl, Below.refl _ _⟩
  have hq : ((rows.length : Int) != (rows.length : Int)) = false := by simp
  have HXE : Hid (xs.length = rows.length) := hxe
  rw [hxe] at hb hx h1 ⊢
  clear hxe
  go_wp2
  go_loopg [9] rows.length (fun gk s9 wr => wr = w ∧ ∃ v : Nat, v ≤ rows.length ∧ gk = rows.length - v ∧ s9 = .int .i64 (v : Int) ∧ DomTo rows v)
  case atStart => exact ⟨rfl, 0, Nat.zero_le _, by omega, rfl, fun i r hi => absurd hi (by omega)⟩
  case round =>
  obtain ⟨hw, v, hv, hgk, rfl, hD⟩ := hrel
  obtain rfl : w = wr := hw.symm
  clear hw
  by_cases hlt : v < rows.length
  · as_aux_lemma =>
    rcases hs with hr0 | ⟨b, off, rfl, hs⟩
    · simp [hr0] at hlt
    obtain ⟨r, hrk⟩ : ∃ r, rows[v]? = some r := ⟨_, List.getElem?_eq_getElem hlt⟩
    obtain ⟨ra, rc, c0, hri⟩ := hs v r hrk
    have hr9 : r.length ≤ 1048576 := Nat.le_trans (rtot_mem (List.mem_iff_getElem?.2 ⟨v, hrk⟩)) HTR.out
    have HRK : Hid (rows[v]? = some r) := hrk
    clear hrk
    go_wp2
    go_loopg [91] r.length (fun gk s91 wr' => wr' = w ∧ ∃ j : Nat, j ≤ r.length ∧ gk = r.length - j ∧ s91 = .int .i64 (j : Int) ∧ ∀ x, x ∈ r.take j → 0 ≤ x ∧ x < rows.length)
    case atStart => exact ⟨rfl, 0, Nat.zero_le _, by omega, rfl, by simp⟩
    case round =>
      obtain ⟨hw, j, hj, hgk1, rfl, hX⟩ := hrel
      obtain rfl : w = wr := hw.symm
      clear hw
      by_cases hjl : j < r.length
      · rcases hri with rfl | ⟨b', off', rfl, hri⟩
        · simp at hjl
        obtain ⟨x, hxj⟩ : ∃ x, r[j]? = some x := ⟨_, List.getElem?_eq_getElem hjl⟩
        have cx := hri j x hxj
        have HXJ : Hid (r[j]? = some x) := hxj
        clear hxj hri
        by_cases hx0 : x < 0
        · go_wp2
          go_ret
          exact ⟨rfl, Below.refl _ _⟩
        by_cases hx1 : (rows.length : Int) ≤ x
        · go_wp2
          go_ret
          exact ⟨rfl, Below.refl _ _⟩
        go_wp2
        go_roundg (r.length - (j + 1))
        case measure => omega
        case rel =>
          refine ⟨rfl, j + 1, by omega, rfl, by go_num, fun y hy => ?_⟩
          rw [List.take_add_one, HXJ.out] at hy
          simp only [Option.toList_some, List.mem_append, List.mem_singleton] at hy
          rcases hy with hy | rfl
          · exact hX y hy
          · omega
      · obtain rfl : j = r.length := by omega
        rw [List.take_length] at hX
        go_wp2
        go_roundg (rows.length - (v + 1))
        case measure => omega
        case rel => exact ⟨rfl, v + 1, by omega, rfl, by go_num, hD.step HRK.out hX⟩
  obtain rfl : v = rows.length := by omega
  have hd := hD.all
  clear hD hlt hv hgk hb hx h1
  have hn : rows.length ≤ 65536 := by omega
  have hlen := gOf_len_le HTR.out
  have htot : (pre (gOf rows) rows.length 0).length ≤ 1048576 := by rw [pre_total]; exact HTR.out
  have hrl2 : ∀ r, r ∈ rows → r.length ≤ 1048576 := fun r hr => Nat.le_trans (rtot_mem hr) HTR.out
  have hcl := cloneStrs ta tc xs w (by rw [HXE.out]; exact hn) HTX.out
  rw [HXE.out] at hcl
  clear hrl hr h2 htr htx
  as_aux_lemma =>
  go_wp2_with fail
  refine hcl.mono ?_
  rintro e w1 ⟨⟨ta1, tc1, rfl, ht1⟩, hb1⟩
  go_wp2_with fail
  refine (cloneRows sa sc rows w1 hn hrl2 (hs.below hb1)).mono ?_
  rintro e w2 ⟨⟨sa1, sc1, rfl, hs1⟩, hb2⟩
  have ht2 := ht1.below hb2
  have hB2 := hb1.trans (hb2.mono hb1.size)
  clear hcl ht1 hs hrl2
  go_wp2_with fail
  refine (zzLow ta1 sa1 tc1 sc1 xs rows w2 HXE.out hn hd hlen ht2 hs1).mono ?_
  rintro e w3 ⟨⟨C, lo, comp, c, hTar, hC, rfl, hrC⟩, hb3⟩
  have hs3 := hs1.below hb3
  have hB3 := hB2.trans (hb3.mono hB2.size)
  clear ht2 hs1
  go_wp2_with fail
  refine (kosW sa1 sc1 rows w3 hn hd hlen htot hs3).mono ?_
  rintro e w4 ⟨⟨K, kc, k, hKos, hkn, hK, rfl, hrK⟩, hb4⟩
  have hs4 := hs3.below hb4
  have hB4 := hB3.trans (hb4.mono hB3.size)
  have hrC4 := rowIs_kept hrC (below_grown hb4 none) (by simp)
  clear hs3 hrC
  go_wp2_with fail
  refine (sameW K C rows.length k kc comp w4 hn hkn hrK hrC4 (both_same hKos hTar) hKos.rng (comp_lt_k hKos hTar)).mono ?_
  rintro e w5 ⟨rfl, hb5⟩
  have hs5 := hs4.below hb5
  have hB5 := hB4.trans (hb5.mono hB4.size)
  have hrC5 := rowIs_kept hrC4 (below_grown hb5 none) (by simp)
  have hrK5 := rowIs_kept hrK (below_grown hb5 none) (by simp)
  clear hs4 hrC4 hrK hb1 hb2 hb3 hb4 hb5 hB2 hB3 hB4 hC hK
  go_wp2
  go_loopg [16] rows.length (fun gk s16 wr => ∃ u : Nat, u ≤ rows.length ∧ gk = rows.length - u ∧ s16 = .int .i64 (u : Int) ∧ Below w5.heap.size w5 wr)
  case atStart => exact ⟨0, Nat.zero_le _, by omega, rfl, Below.refl _ _⟩
  case round =>
  obtain ⟨u, hu, hgk, rfl, hbr⟩ := hrel
  by_cases hlt : u < rows.length
  · as_aux_lemma =>
    rcases hs5 with hr0 | ⟨b, off, rfl, hs5⟩
    · simp [hr0] at hlt
    obtain ⟨ao, rc, crow0, hel⟩ := row_read hs5 hd hlt
    have crow := (hbr.cell (p := ⟨b, off + u, none⟩) (lt_of_cell crow0)).trans crow0
    have hl1 := hlen u
    go_wp2
    clear crow crow0
    obtain ⟨wo, rfl⟩ : ∃ wo : World, wo = wr := ⟨_, rfl⟩
    go_loopg [138] (gOf rows u).length (fun gk s138 wr => ∃ j : Nat, j ≤ (gOf rows u).length ∧ gk = (gOf rows u).length - j ∧ s138 = .int .i64 (j : Int) ∧ Below w5.heap.size w5 wr)
    case atStart => exact ⟨0, Nat.zero_le _, by omega, rfl, hbr⟩
    case round =>
      clear hbr
      obtain ⟨j, hj, hgk1, rfl, hbr⟩ := hrel
      by_cases hjl : j < (gOf rows u).length
      · obtain ⟨x, hx⟩ : ∃ x, (gOf rows u)[j]? = some x := ⟨_, List.getElem?_eq_getElem hjl⟩
        obtain ⟨b', off', rfl, cel0⟩ := hel j x hx
        have cel := (hbr.cell (p := ⟨b', off' + j, none⟩) (lt_of_cell cel0)).trans cel0
        have hxn : x < rows.length := gOf_lt hd (List.mem_iff_getElem?.2 ⟨j, hx⟩)
        have hle : comp x ≤ comp u := hTar.edge u hlt x (List.mem_iff_getElem?.2 ⟨j, hx⟩)
        have cC1 := (hbr.cell (p := ⟨C, x, none⟩) hrC5.lt).trans (hrC5.cell hxn)
        have cC2 := (hbr.cell (p := ⟨C, u, none⟩) hrC5.lt).trans (hrC5.cell hlt)
        clear hx hel cel0
        go_wp2
        go_quiet (fail)
        go_wp2
        go_roundg ((gOf rows u).length - (j + 1))
        case measure => omega
        case rel => exact ⟨j + 1, by omega, rfl, by go_num, below_drewN hbr _⟩
      · obtain rfl : j = (gOf rows u).length := by omega
        go_wp2
        go_roundg (rows.length - (u + 1))
        case measure => omega
        case rel => exact ⟨u + 1, by omega, rfl, by go_num, hbr⟩
  obtain rfl : u = rows.length := by omega
  clear hs5 hrC5 hgk
  have hkn6 : k ≤ 65536 := by omega
  go_wp2_with (at_make; refine wpList_mk _ rfl _ _ 25 rfl 3 i3 _ Try.underlying25 h3 h3z h3s rfl .i64 .i64 _ _ k k rfl rfl rfl rfl (Nat.le_refl _) (by rw [h3b]; omega) (by unfold maxLen; omega) ?_; intro w6 z6 r6 g6; have Z6 : Hid (w6.heap.size = wr.heap.size + 1) := z6; clear z6)
  have hZ : w5.heap.size ≤ wr.heap.size := hbr.size
  have hb6 := hbr.grown g6 hbr.size (by simp)
  clear g6 Z6 hbr
  generalize wr.heap.size = Z at *
  go_loopg [20] rows.length (fun gk s20 wr => ∃ m : Nat, m ≤ rows.length ∧ gk = rows.length - m ∧ s20 = .int .i64 (m : Int) ∧ Below w5.heap.size w5 wr ∧ wr.rowIs Z 3 k (fun a => .int .i64 (cntK kc m a : Int)))
  case atStart => exact ⟨0, Nat.zero_le _, by omega, rfl, hb6, r6⟩
  case round =>
  clear hb6 r6
  obtain ⟨m, hm, hgk, rfl, hbr, hrow⟩ := hrel
  by_cases hlt : m < rows.length
  · as_aux_lemma =>
    obtain ⟨h4, h5⟩ := hKos.rng m hlt
    obtain ⟨a, ha⟩ : ∃ a : Nat, kc m = a := ⟨(kc m).toNat, by omega⟩
    have hak : a < k := by omega
    have ck := (hbr.cell (p := ⟨K, m, none⟩) hrK5.lt).trans (hrK5.cell hlt)
    rw [ha] at ck
    have HAK : Hid (kc m = a) := ha
    clear ha h4 h5
    have cz := hrow.cell hak
    have zz := hrow.frozen a
    have hcb := cntK_le kc m a
    have hset := hrow.set a (.int .i64 ((cntK kc m a : Int) + 1))
    have HSET : Hid ((wr.setCell ⟨Z, a, none⟩ (.int .i64 ((cntK kc m a : Int) + 1))).rowIs Z 3 k (fun a => .int .i64 (cntK kc (m + 1) a : Int))) := by
      refine hset.congr fun i _ => ?_
      have hsu : cntK kc (m + 1) i = cntK kc m i + if kc m = (i : Int) then 1 else 0 := rfl
      rw [hsu, HAK.out]
      by_cases e : i = a
      · subst e
        rw [if_pos rfl, if_pos rfl, Int.natCast_add]
        rfl
      · have e2 : ¬ ((a : Int) = (i : Int)) := by omega
        rw [if_neg e, if_neg e2, Nat.add_zero]
    clear hset
    go_wp2
    go_roundg (rows.length - (m + 1))
    case measure => omega
    case rel => exact ⟨m + 1, by omega, rfl, by go_num, hbr.setCell hZ _, HSET.out⟩
  obtain rfl : m = rows.length := by omega
  clear hlt hm hgk
  have HBIG : Hid (∀ v a : Nat, v < rows.length → kc v = a → (Big (gOf rows) v ↔ 1 < cntK kc rows.length a)) := fun v a hv ha => big_iff (fun v w h => gOf_lt hd h) hKos hv ha
  have HLO : Hid ((lo = -1 ∧ ∀ u, u < rows.length → ¬ Big (gOf rows) u) ∨ (∃ l : Nat, lo = l ∧ l < rows.length ∧ Big (gOf rows) l ∧ ∀ u, u < rows.length → Big (gOf rows) u → l ≤ u)) := hTar.lo
  have HFIN : Hid (Below w.heap.size w wr) := hB5.trans (hbr.mono hB5.size)
  clear hB5 hTar
  go_wp2
  go_loopg [21, 22] rows.length (fun gk s21 s22 wr' => wr' = wr ∧ ∃ v : Nat, v ≤ rows.length ∧ gk = rows.length - v ∧ s22 = .int .i64 (v : Int) ∧ s21 = .int .i64 (-1) ∧ ∀ u, u < v → ¬ Big (gOf rows) u)
  case atStart => exact ⟨rfl, 0, Nat.zero_le _, by omega, rfl, rfl, fun u hu => absurd hu (by omega)⟩
  case round =>
  obtain ⟨rfl, v, hv, hgk, rfl, rfl, hno⟩ := hrel
  by_cases hlt : v < rows.length
  · obtain ⟨h4, h5⟩ := hKos.rng v hlt
    obtain ⟨a, ha⟩ : ∃ a : Nat, kc v = a := ⟨(kc v).toNat, by omega⟩
    have hak : a < k := by omega
    have ck := (hbr.cell (p := ⟨K, v, none⟩) hrK5.lt).trans (hrK5.cell hlt)
    rw [ha] at ck
    have hbi := HBIG.out v a hlt ha
    have HBI : Hid (Big (gOf rows) v ↔ 1 < cntK kc rows.length a) := hbi
    clear ha h4 h5 hbi
    have cz := hrow.cell hak
    by_cases hbig : 1 < cntK kc rows.length a
    · as_aux_lemma =>
      have hlo : lo = v := by
        have hB := HBI.out.2 hbig
        rcases HLO.out with ⟨_, h2⟩ | ⟨l, h1, h2, h3, h4⟩
        · exact absurd hB (h2 v hlt)
        · have h5 := h4 v hlt hB
          by_cases e : l < v
          · exact absurd h3 (hno l e)
          · rw [h1]; congr 1; omega
      have hq : (lo == (v : Int)) = true := by rw [hlo]; simp
      clear hlo
      go_wp2
      go_ret
      exact ⟨rfl, HFIN.out⟩
    · as_aux_lemma =>
      go_wp2
      go_roundg (rows.length - (v + 1))
      case measure => omega
      case rel =>
        refine ⟨rfl, v + 1, by omega, rfl, by go_num, rfl, fun u hu => ?_⟩
        by_cases e : u = v
        · subst e; exact fun h => hbig (HBI.out.1 h)
        · exact hno u (by omega)
  · as_aux_lemma =>
    have hlo : lo = -1 := by
      rcases HLO.out with ⟨h1, _⟩ | ⟨l, h1, h2, h3, h4⟩
      · exact h1
      · exact absurd h3 (hno l (by omega))
    have hq : (lo == (-1 : Int)) = true := by rw [hlo]; rfl
    clear hlo
    go_wp2
    go_ret
    exact ⟨rfl, HFIN.out⟩
end Go.Proofs.Qxb6602302a

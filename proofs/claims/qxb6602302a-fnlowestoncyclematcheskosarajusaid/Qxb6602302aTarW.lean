/-
  The walk of lowestOnCycle.
-/
import Derived.Test.Qxb6602302aTarM
import Derived.Test.Qxb6602302aTarS
import Derived.Deep.CutRange
namespace Go.Proofs.Qxb6602302a
open Go.RowKit
set_option linter.unusedVariables false
set_option linter.unusedSimpArgs false

/-- What a call of lowestOnCycle hands back. -/
def TarRet (rows : List (List Int)) (w : World) (e : Ending) (w' : World) : Prop :=
  ∃ C lo comp c, TarRes (gOf rows) rows.length comp c lo ∧ w.heap.size ≤ C ∧ e = .returned (.tuple #[.int .i64 lo, .slice (some ⟨C, 0, none⟩) rows.length rows.length]) ∧ w'.rowIs C 3 rows.length (fun i => .int .i64 (comp i))

/-- Between two roots. -/
def Outer (rows : List (List Int)) (w : World) (R L O C B : Nat) (wr : World) (k : Nat) (s2 s7 s8 s9 : Value) : Prop :=
  ∃ d low comp fin count c lo, T (gOf rows) rows.length d low comp [] [] fin count c lo ∧ (∀ v, v < k → d v ≠ 0) ∧ TM w R L O C B rows.length wr d low comp [] s7 ∧ s2 = .int .i64 lo ∧ s8 = .int .i64 (count : Int) ∧ s9 = .int .i64 (c : Int)

/-- Behind a node's last successor. -/
def AfterPop (rows : List (List Int)) (w : World) (R L O C B : Nat) (d1 low1 comp1 : Nat → Nat) (stack fin1 : List Nat) (count1 c1 : Nat) (lo1 : Int) (s7 : Value) (f : Tf) (P : List Tf) (gp cap m : Nat) (wc : World) : Prop :=
  ∃ low2, low2 f.v = low1 f.v ∧ TM w R L O C B rows.length wc d1 low2 comp1 stack s7 ∧ OwnP wc B (.slice (some ⟨gp, 0, none⟩) m cap) P ∧ (low1 f.v ≠ d1 f.v → T (gOf rows) rows.length d1 low2 comp1 stack P (f.v :: fin1) count1 c1 lo1) ∧ (low1 f.v = d1 f.v → low2 = low1)

/-- Within the loop that pops. -/
def Popping (rows : List (List Int)) (w : World) (R L O C B : Nat) (d1 low1 comp1 : Nat → Nat) (c1 : Nat) (S R0 : List Nat) (v : Nat) (P : List Tf) (p : Value) (j : Nat) (s7 s16 s17 : Value) (wr : World) : Prop :=
  ∃ S1 S2 sm, j = S2.length ∧ S = S1 ++ S2 ∧ Pop S1 S2 v sm ∧ TM w R L O C B rows.length wr d1 low1 (closeOf comp1 c1 S1) (S2 ++ v :: R0) s7 ∧ OwnP wr B p P ∧ s16 = .int .i64 (S1.length : Int) ∧ s17 = .int .i64 (sm : Int)

/-- Within one root. -/
def Inner (rows : List (List Int)) (w : World) (R L O C B : Nat) (k gk : Nat) (s2 s7 s8 s9 s11 : Value) (wr : World) : Prop :=
  ∃ d low comp stack path fin count c lo, T (gOf rows) rows.length d low comp stack path fin count c lo ∧ gk = allT (gOf rows) rows.length - roundsT (gOf rows) fin path ∧ (∀ v, v < k + 1 → d v ≠ 0) ∧ TM w R L O C B rows.length wr d low comp stack s7 ∧ OwnP wr B s11 path ∧
    s2 = .int .i64 lo ∧ s8 = .int .i64 (count : Int) ∧ s9 = .int .i64 (c : Int)

set_option maxRecDepth 8000 in
set_option maxHeartbeats 8000000 in
theorem tarW (G : Nat) (ta sa : Option Addr) (tc sc : Nat) (rows : List (List Int)) (w : World) (hn : rows.length ≤ 65536) (hd : InDom rows) (hlen : ∀ v, (gOf rows v).length ≤ 1048576)
    (hg1 : w.cell? ⟨G, 1, none⟩ = some (.slice ta rows.length tc)) (hg3 : w.cell? ⟨G, 3, none⟩ = some (.slice sa rows.length sc)) (hrows : RowsOf w sa rows) :
    Calls Try.prog 22 #[.pointer (some ⟨G, 0, none⟩)] w fun e w' => TarRet rows w e w' ∧ Below w.heap.size w w' := by
  obtain ⟨i3, h3, h3z, h3s, h3b⟩ := info_parts Try.info3
  obtain ⟨i4, h4, h4z, h4s, h4b⟩ := info_parts Try.info4
  obtain ⟨i5, h5, h5z, h5s, h5b⟩ := info_parts Try.info65
  have hGlt : G < w.heap.size := lt_of_cell hg1
  have tok1 : True := trivial
  have tok2 : True := trivial
  have tok3 : True := trivial
  have tok4 : True := trivial
  go_enter Try.func22, Try.ntmps22
  go_wp2_with (first
    | (at_make; have _t := tok1; refine wpList_mk _ rfl _ _ 25 rfl 3 i3 _ Try.underlying25 h3 h3z h3s rfl .i64 .i64 _ _ rows.length rows.length rfl rfl rfl rfl (Nat.le_refl _) (by rw [h3b]; omega) (by unfold maxLen; omega) ?_; intro w1 z1 r1 g1; clear tok1; have Z1 : Hid (w1.heap.size = w.heap.size + 1) := z1; clear z1; have c1 := g1.cell hg1 (by simp))
    | (at_make; have _t := tok2; refine wpList_mk _ rfl _ _ 25 rfl 3 i3 _ Try.underlying25 h3 h3z h3s rfl .i64 .i64 _ _ rows.length rows.length rfl rfl rfl rfl (Nat.le_refl _) (by rw [h3b]; omega) (by unfold maxLen; omega) ?_; intro w2 z2 r2 g2; clear tok2; have Z2 : Hid (w2.heap.size = w1.heap.size + 1) := z2; clear z2; have c2 := g2.cell c1 (by simp))
    | (at_make; have _t := tok3; refine wpList_mk _ rfl _ _ 53 rfl 4 i4 _ Try.underlying53 h4 h4z h4s rfl .i64 .i64 _ _ rows.length rows.length rfl rfl rfl rfl (Nat.le_refl _) (by rw [h4b]; omega) (by unfold maxLen; omega) ?_; intro w3 z3 r3 g3; clear tok3; have Z3 : Hid (w3.heap.size = w2.heap.size + 1) := z3; clear z3; have c3 := g3.cell c2 (by simp))
    | (at_make; have _t := tok4; refine wpList_mk _ rfl _ _ 25 rfl 3 i3 _ Try.underlying25 h3 h3z h3s rfl .i64 .i64 _ _ rows.length rows.length rfl rfl rfl rfl (Nat.le_refl _) (by rw [h3b]; omega) (by unfold maxLen; omega) ?_; intro w4 z4 r4 g4; clear tok4; have Z4 : Hid (w4.heap.size = w3.heap.size + 1) := z4; clear z4; have c4 := g4.cell c3 (by simp)))
  have HTM := TM.start Z1.out Z2.out Z3.out Z4.out r1 r2 r3 r4 g1 g2 g3 g4
  have HB : Blk w.heap.size w.heap.size w1.heap.size w2.heap.size w3.heap.size w4.heap.size := by
    have a1 := Z1.out; have a2 := Z2.out; have a3 := Z3.out; have a4 := Z4.out
    exact ⟨Nat.le_refl _, by omega, by omega, by omega, by omega⟩
  clear Z1 Z2 Z3 Z4 r1 r2 r3 r4 g1 g2 g3 g4 c1 c2 c3 c4
  generalize w1.heap.size = L at *
  generalize w2.heap.size = O at *
  generalize w3.heap.size = C at *
  generalize w4.heap.size = B at *
  go_loopw [2, 7, 8, 9, 48] (fun s2 s7 s8 s9 i wr => ∃ k : Nat, k ≤ rows.length ∧ i = .int .i64 k ∧ Outer rows w w.heap.size L O C B wr k s2 s7 s8 s9) (fun _ _ _ _ i _ => rows.length - (intOf i).toNat)
  case atStart => exact ⟨0, Nat.zero_le _, rfl, _, _, _, [], 0, 0, -1, T.start _ _ _ _, fun v hv => absurd hv (by omega), HTM, rfl, rfl, rfl⟩
  case round =>
    clear HTM
    obtain ⟨k, hk, rfl, d, low, comp, fin, count, c, lo, hT, hall, hM, rfl, rfl, rfl⟩ := hrel
    by_cases hlt : k < rows.length
    · have cR := hM.r.cell hlt
      have zR := hM.r.frozen k
      have zL := hM.l.frozen k
      by_cases hk0 : d k = 0
      · have hq : ((d k : Int) != 0) = false := by simp [hk0]
        have HK0 : Hid (d k = 0) := hk0
        clear hk0
        have hcl : Hid (count ≤ rows.length) := hT.count_le
        have hcl2 : count ≤ 65536 := Nat.le_trans hcl.out hn
        have HA0 := hM.setR HB k (count + 1) (x := (count : Int) + 1) (by simp)
        have cL := HA0.l.cell hlt
        have zL2 := HA0.l.frozen k
        have HA := HA0.setL HB k (count + 1) (x := (count : Int) + 1) (by simp)
        go_wp2_with (at_builtin; go_loud (refine wpList_pushS (B := B) h3 h3z h3s h3b rfl _ _ rfl k HA.s rfl _ rfl (by simp) (by simp) HA.z ?_); intro s7' w7 hown7 hgr7; have HA7 := (HA.kept HB (grown_alloc _ _ none) (by simp)).push HB hgr7 hown7; have HA7x := (HA.kept HB (grown_alloc _ _ none) (by simp)).grow HB hgr7; have c7 := HA7x.cell hlt; have z7 := HA7x.frozen k)
        have hT1 := hT.push hlt HK0.out [] rfl (by simp [tn]) (by simp)
        have HM1 := HA7.kept HB (grown_alloc _ (.cells #[.int .i64 (k : Int), .int .i64 0] 65) none) (by simp)
        have HP1 := OwnP.first (w7.setCell ⟨O, k, none⟩ (.bool true)) B k HA7.z
        have hall1 : ∀ v, v < k + 1 → upd d k (count + 1) v ≠ 0 := fun v hv => by
          unfold upd
          by_cases e : v = k
          · rw [if_pos e]; omega
          · rw [if_neg e]; exact hall v (by omega)
        clear HA7 HA7x HA HA0 cR zR zL cL zL2 hq hM hT c7 z7 hgr7 hown7
        obtain ⟨wo, rfl⟩ : ∃ wo : World, wo = wr := ⟨_, rfl⟩
        go_loopg [2, 7, 8, 9, 11] (allT (gOf rows) rows.length - roundsT (gOf rows) fin [⟨k, 0⟩]) (fun gk s2 s7 s8 s9 s11 wr => Inner rows w w.heap.size L O C B k gk s2 s7 s8 s9 s11 wr)
        case atStart => exact ⟨_, _, _, _, _, _, _, _, _, hT1, rfl, hall1, HM1, by simpa using HP1, rfl, by simp, rfl⟩
        case round =>
          clear HM1 HP1 hT1 hall1
          obtain ⟨d1, low1, comp1, stack, path, fin1, count1, c1, lo1, hT, hgk, hall1, hM, hP, rfl, rfl, rfl⟩ := hrel
          cases path with
          | nil =>
            as_aux_lemma =>
            obtain ⟨pa, pc, rfl⟩ := hP.form
            have hst := hT.empty
            subst hst
            go_wp2
            go_roundw
            case rel => exact ⟨k + 1, by omega, by go_num, d1, low1, comp1, fin1, count1, c1, lo1, hT, hall1, hM, rfl, rfl, rfl⟩
            case measure => simp [intOf]; omega
          | cons f P =>
            obtain ⟨gp, cap, rfl, hgB, hgl, hcap, hcapM, cv, ci, zi, hcur, hset, hpop⟩ := hP.top
            have hfn : f.v < rows.length := (hT.dlt f.v ((hT.met f.v).2 (Or.inr (by simp [tn])))).1
            rcases hrows with hr0 | ⟨b, off, rfl, hrA⟩
            · simp [hr0] at hfn
            have hrB := hrA.below hM.b
            obtain ⟨ao, rc, crow, hel⟩ := row_read hrB hd hfn
            have cG3 := (hM.b.cell (p := ⟨G, 3, none⟩) hGlt).trans hg3
            have hPl : P.length + 1 ≤ 65536 := by have := hT.path_le; simp at this; omega
            by_cases hi : f.i < (gOf rows f.v).length
            · obtain ⟨x, hx⟩ : ∃ x, (gOf rows f.v)[f.i]? = some x := ⟨_, List.getElem?_eq_getElem hi⟩
              obtain ⟨b', off', rfl, cel⟩ := hel f.i x hx
              have hxn : x < rows.length := gOf_lt hd (List.mem_iff_getElem?.2 ⟨f.i, hx⟩)
              have HX : Hid ((gOf rows f.v)[f.i]? = some x) := hx
              clear hx hel
              have hl1 := hlen f.v
              have happ := own_apart hM.s hP
              have hset1 : ∀ m, OwnP ((wr.drewN m).setCell ⟨gp, P.length * 2 + 1, none⟩ (.int .i64 ((f.i : Int) + 1))) B (.slice (some ⟨gp, 0, none⟩) (P.length + 1) cap) (⟨f.v, f.i + 1⟩ :: P) := fun m => by
                have := hset (f.i + 1)
                rw [Int.natCast_add] at this
                exact this
              have HS : ∀ m, TM w w.heap.size L O C B rows.length ((wr.drewN m).setCell ⟨gp, P.length * 2 + 1, none⟩ (.int .i64 ((f.i : Int) + 1))) d1 low1 comp1 stack u7 := fun m =>
                (hM.drew m).kept HB (grown_set _ _ _) (fun k e => by simp at e; subst e; exact ⟨hgB, fun h' => happ _ h' rfl⟩)
              have cR : ∀ m, ((wr.drewN m).setCell ⟨gp, P.length * 2 + 1, none⟩ (.int .i64 ((f.i : Int) + 1))).cell? ⟨w.heap.size, x, none⟩ = some (.int .i64 (d1 x)) := fun m => (HS m).r.cell hxn
              have zR : ∀ m, ((wr.drewN m).setCell ⟨gp, P.length * 2 + 1, none⟩ (.int .i64 ((f.i : Int) + 1))).frozen? ⟨w.heap.size, x, none⟩ = false := fun m => (HS m).r.frozen x
              clear happ hset hcur hpop hcap hcapM
              by_cases hx0 : d1 x = 0
              · as_aux_lemma =>
                have hq : ((d1 x : Int) == 0) = true := by simp [hx0]
                have HX0 : Hid (d1 x = 0) := hx0
                clear hx0
                have hcl2 : count1 ≤ 65536 := Nat.le_trans hT.count_le hn
                have hsl : stack.length ≤ 65536 := Nat.le_trans hT.stack_le hn
                have HA0 := fun m => (HS m).setR HB x (count1 + 1) (x := (count1 : Int) + 1) (by simp)
                have cL := fun m => (HA0 m).l.cell hxn
                have zL2 := fun m => (HA0 m).l.frozen x
                have HA := fun m => (HA0 m).setL HB x (count1 + 1) (x := (count1 : Int) + 1) (by simp)
                have hBe := HB.e
                have hBb := HB.b
                have hBc := HB.c
                have hBd := HB.d
                have HPA := fun m => ((hset1 m).under (x := x) w.heap.size (by omega) (.int .i64 ((count1 : Int) + 1))).under (x := x) L (by omega) (.int .i64 ((count1 : Int) + 1))
                go_wp2
                go_quiet (fail)
                obtain ⟨m1, rfl⟩ : ∃ m, m = nq := ⟨_, rfl⟩
                go_wp2
                go_quiet (fail)
                go_upto_region 27 with (fail)
                have H5 := HA (m1 + nq)
                have P5 := HPA (m1 + nq)
                clear HA HPA HA0 cL zL2 HS cR zR hset1 crow cel cv ci zi cG3 hM hP hrB hq
                generalize (((wr.drewN (m1 + nq)).setCell ⟨gp, P.length * 2 + 1, none⟩ (.int .i64 ((f.i : Int) + 1))).setCell ⟨w.heap.size, x, none⟩ (.int .i64 ((count1 : Int) + 1))).setCell ⟨L, x, none⟩ (.int .i64 ((count1 : Int) + 1)) = w5 at H5 P5 ⊢
                have H6 := H5.kept HB (grown_alloc _ (.cells #[.int .i64 (x : Int)] 3) none) (by simp)
                have hAp := own_apart H5.s P5
                have tok1 : True := trivial
                go_wp2_with (first
                  | (at_builtin; have _t := tok1; refine wpList_pushS (B := B) h3 h3z h3s h3b rfl _ _ rfl x H5.s rfl _ rfl rfl hsl H5.z ?_; intro s7' w7 hown7 hgr7; clear tok1; have HA7 := H6.push HB hgr7 hown7; have HA7x := H6.grow HB hgr7; have c7 := HA7x.cell hxn; have z7 := HA7x.frozen x; have HP7 := (P5.al _).kept hgr7 (fun k e h' => hAp k e h'))
                  | (at_builtin; refine wpList_pushP (B := B) h5 h5z h5s h5b rfl _ _ rfl x (HP7.under O (by omega) _) rfl _ rfl (by simp) (by simp; omega) HA7.z ?_; intro p8 w8 hown8 hgr8))
                go_roundg (allT (gOf rows) rows.length - (roundsT (gOf rows) fin1 (f :: P) + 1))
                case measure =>
                  have hT2 := hT.child HX.out HX0.out hxn
                  have h1 := roundsT_le hT2
                  rw [roundsT_push, roundsT_adv] at h1
                  omega
                case rel =>
                  have hAp8 := own_apart hown7 HP7
                  refine ⟨_, _, _, _, _, _, _, _, _, hT.child HX.out HX0.out hxn, by rw [roundsT_push, roundsT_adv], fun v hv => ?_, (HA7.kept HB (grown_alloc _ _ none) (by simp)).kept HB hgr8 (fun k e => ?_), hown8, rfl, by simp, rfl⟩
                  · unfold upd
                    by_cases e : v = x
                    · rw [if_pos e]; omega
                    · rw [if_neg e]; exact hall1 v hv
                  · simp only [Value.ownBlock, Option.some.injEq] at e
                    subst e
                    exact ⟨hgB, fun h' => hAp8 _ h' rfl⟩
              · have hq : ((d1 x : Int) == 0) = false := by simp [hx0]
                by_cases hxs : x ∈ stack
                · as_aux_lemma =>
                  have cO : ∀ m, ((wr.drewN m).setCell ⟨gp, P.length * 2 + 1, none⟩ (.int .i64 ((f.i : Int) + 1))).cell? ⟨O, x, none⟩ = some (.bool true) := fun m => by rw [(HS m).o.cell hxn, decide_eq_true hxs]
                  have HXS : Hid (x ∈ stack) := hxs
                  have HX0 : Hid (d1 x ≠ 0) := hx0
                  clear hxs hx0
                  go_wp2
                  go_quiet (fail)
                  obtain ⟨m1, rfl⟩ : ∃ m, m = nq := ⟨_, rfl⟩
                  go_wp2
                  go_quiet (fail)
                  go_upto_region 31 with (fail)
                  have H5 := HS (m1 + nq)
                  have P5 := hset1 (m1 + nq)
                  clear HS cR zR cO hset1 crow cel cv ci zi cG3 hM hP hrB hq
                  generalize (wr.drewN (m1 + nq)).setCell ⟨gp, P.length * 2 + 1, none⟩ (.int .i64 ((f.i : Int) + 1)) = w5 at H5 P5 ⊢
                  have cRx := H5.r.cell hxn
                  have cLv := H5.l.cell hfn
                  have zLv := H5.l.frozen f.v
                  have hB1 : L < B := by have h2 := HB.c; have h3 := HB.d; have h4 := HB.e; omega
                  go_region
                  go_wp2
                  all_goals
                    go_roundg (allT (gOf rows) rows.length - (roundsT (gOf rows) fin1 (f :: P) + 1))
                    case measure =>
                      have h1 := roundsT_le (hT.skipO HX.out HX0.out HXS.out)
                      rw [roundsT_adv] at h1
                      omega
                    case rel =>
                      exact ⟨_, _, _, _, _, _, _, _, _, hT.skipO HX.out HX0.out HXS.out, by rw [roundsT_adv], hall1, (H5.setL HB f.v _ (by omega)).drew1, (P5.under L hB1 _).drew1, rfl, rfl, rfl⟩
                · as_aux_lemma =>
                  have cO : ∀ m, ((wr.drewN m).setCell ⟨gp, P.length * 2 + 1, none⟩ (.int .i64 ((f.i : Int) + 1))).cell? ⟨O, x, none⟩ = some (.bool false) := fun m => by rw [(HS m).o.cell hxn, decide_eq_false hxs]
                  have HXS : Hid (x ∉ stack) := hxs
                  have HX0 : Hid (d1 x ≠ 0) := hx0
                  clear hxs hx0
                  go_wp2
                  go_quiet (fail)
                  obtain ⟨m1, rfl⟩ : ∃ m, m = nq := ⟨_, rfl⟩
                  go_wp2
                  go_quiet (fail)
                  go_wp2
                  go_roundg (allT (gOf rows) rows.length - (roundsT (gOf rows) fin1 (f :: P) + 1))
                  case measure =>
                    have h1 := roundsT_le (hT.skipC HX.out HX0.out HXS.out)
                    rw [roundsT_adv] at h1
                    omega
                  case rel =>
                    exact ⟨_, _, _, _, _, _, _, _, _, hT.skipC HX.out HX0.out HXS.out, by rw [roundsT_adv], hall1, HS _, hset1 _, rfl, rfl, rfl⟩
            · have hie : f.i = (gOf rows f.v).length := by have := (hT.ei f (by simp)).1; omega
              have HIE : Hid (f.i = (gOf rows f.v).length) := hie
              clear hie hel hset hcur
              have hl1 := hlen f.v
              have hilt : ¬ ((f.i : Int) < ((gOf rows f.v).length : Int)) := by omega
              go_wp2
              go_quiet (fail)
              obtain ⟨m1, rfl⟩ : ∃ m, m = nq := ⟨_, rfl⟩
              go_upto_if 173 with (fail)
              have H5 := hM.drew m1
              have P5 := hpop.drew m1
              clear crow cv ci zi cG3 hM hP hrB hpop
              generalize wr.drewN m1 = w5 at H5 P5 ⊢
              obtain ⟨m, hm⟩ : ∃ m, P.length = m := ⟨_, rfl⟩
              rw [hm] at hPl P5 ⊢
              have HM : Hid (P.length = m) := hm
              clear hm
              go_cut [] from 76 to 242 (fun wc => AfterPop rows w w.heap.size L O C B d1 low1 comp1 stack fin1 count1 c1 lo1 u7 f P gp cap m wc)
              case first =>
                cases P with
                | nil =>
                  as_aux_lemma =>
                  have hm0 := HM.out
                  simp only [List.length_nil] at hm0
                  subst hm0
                  clear HM
                  go_wp2
                  go_meet
                  case rel => exact ⟨low1, rfl, H5, P5, fun h => hT.pop0 HIE.out h, fun _ => rfl⟩
                | cons p P' =>
                  as_aux_lemma =>
                  have hm1 := HM.out
                  simp only [List.length_cons] at hm1
                  subst hm1
                  clear HM
                  obtain ⟨gp', cap', hh, _, _, _, _, cv, ci, zi, _, _, _⟩ := P5.top
                  injection hh with hh1 hh2 hh3
                  injection hh1 with hh1
                  injection hh1 with hh1
                  subst hh1
                  subst hh3
                  clear hh2 ci zi
                  have hpn : p.v < rows.length := (hT.dlt p.v ((hT.met p.v).2 (Or.inr (by simp [tn])))).1
                  have cLp := H5.l.cell hpn
                  have cLv := H5.l.cell hfn
                  have zLp := H5.l.frozen p.v
                  go_upto_region 35 with (fail)
                  have hB1 : L < B := by have h2 := HB.c; have h3 := HB.d; have h4 := HB.e; omega
                  have hlt1 := (List.pairwise_cons.1 hT.pp).1 p (by simp)
                  have hne : f.v ≠ p.v := fun e => by rw [e] at hlt1; omega
                  go_region
                  rw [min_if]
                  go_wp2
                  go_meet
                  case rel => exact ⟨upd low1 p.v (min (low1 p.v) (low1 f.v)), upd_other _ _ hne, (H5.setL HB p.v _ rfl).drew1, (P5.under L hB1 _).drew1, fun h => hT.popP HIE.out h, fun h => hT.keepLow h⟩
              case rest =>
                obtain ⟨low2, hl2, H6, P6, hne6, heq6⟩ := hcut
                have cLv := H6.l.cell hfn
                have cRv := H6.r.cell hfn
                rw [hl2] at cLv
                by_cases hlow : low1 f.v = d1 f.v
                · have hq : ((low1 f.v : Int) != (d1 f.v : Int)) = false := by simp [hlow]
                  have HLW : Hid (low1 f.v = d1 f.v) := hlow
                  obtain rfl := heq6 hlow
                  clear hlow hl2 hne6 heq6 H5 P5
                  obtain ⟨S, R0, hst, hnd⟩ := hT.split
                  have HST : Hid (stack = S ++ f.v :: R0) := hst
                  have HND : Hid (stack.Nodup) := hnd
                  clear hst hnd
                  go_wp2
                  go_quiet (fail)
                  go_wp2
                  have H7 := H6.drew nq
                  have P7 := P6.drew nq
                  clear H6 P6 cLv cRv hq
                  generalize wc.drewN nq = w7' at H7 P7 ⊢
                  have hstl : stack.length ≤ 65536 := Nat.le_trans hT.stack_le hn
                  have hcl3 : c1 ≤ 65536 := Nat.le_trans hT.c_le hn
                  go_loopg [7, 16, 17] S.length (fun j s7 s16 s17 wr => Popping rows w w.heap.size L O C B d1 low2 comp1 c1 S R0 f.v P (.slice (some ⟨gp, 0, none⟩) m cap) j s7 s16 s17 wr)
                  case atStart => exact ⟨[], S, f.v, rfl, rfl, Pop.start _ _, by rw [close_nil]; rw [HST.out] at H7; exact H7, P7, rfl, rfl⟩
                  case round =>
                    clear H7 P7
                    obtain ⟨S1, S2, sm, hj, hS, hPop, hM8, hP8, rfl, rfl⟩ := hrel
                    have HS : Hid (S = S1 ++ S2) := hS
                    clear hS
                    have hS1l : S1.length + S2.length + R0.length + 1 ≤ 65536 := by
                      have h1 := HST.out; have h2 := HS.out
                      rw [h1, h2] at hstl
                      simp at hstl
                      omega
                    cases S2 with
                    | nil =>
                      as_aux_lemma =>
                      obtain ⟨gs, caps, rfl, hgs1, hgs2, hgs3, hgs4, cs, zs, hops⟩ := OwnS.top hM8.s
                      have zO := hM8.o.frozen f.v
                      have cO := hM8.o.cell hfn
                      have hOC : C ≠ O := by have h4 := HB.d; omega
                      have rC := hM8.c.setOther (a := ⟨O, f.v, none⟩) hOC (.bool false)
                      have cC := rC.cell hfn
                      have zC := rC.frozen f.v
                      obtain ⟨hmin, hmem, hle⟩ := hPop.last
                      have hlev : ¬ f.v < sm := by have := hPop.lev; omega
                      have HMIN : Hid (min sm f.v = sm) := hmin
                      clear hmin
                      go_upto_region 46 with (fail)
                      have hvR : f.v ∉ R0 := by
                        have h1 := HND.out
                        rw [HST.out, List.nodup_append] at h1
                        exact (List.nodup_cons.1 h1.2.1).1
                      have hSe : S = S1 := by have := HS.out; simpa using this
                      have H9 := hM8.close (c := c1) HB hvR hops
                      have hB1 : O < B ∧ C < B := by have h3 := HB.d; have h4 := HB.e; omega
                      have P9 := (hP8.under (x := f.v) O hB1.1 (.bool false)).under (x := f.v) C hB1.2 (.int .i64 (c1 : Int))
                      have hTc := hT.close HIE.out HLW.out (by rw [HST.out, hSe]) hmem hle
                      rw [close_snoc] at H9
                      clear rC cC zC zO cO hM8 hP8 cs zs
                      generalize (wr.setCell ⟨O, f.v, none⟩ (.bool false)).setCell ⟨C, f.v, none⟩ (.int .i64 (c1 : Int)) = w9 at H9 P9 ⊢
                      have HEND : Hid (T (gOf rows) rows.length d1 low2 (closeOf comp1 c1 (S1 ++ [f.v])) R0 P (f.v :: fin1) count1 (c1 + 1) (lowestOf lo1 (S1.length + 1) sm)) := hTc
                      have HMS : roundsT (gOf rows) fin1 (f :: P) + 1 ≤ allT (gOf rows) rows.length := by
                        have h1 := roundsT_le hTc
                        rwa [roundsT_pop _ _ _ _ HIE.out] at h1
                      clear hTc
                      by_cases hs1 : 0 < S1.length
                      · by_cases hlo : lo1 < 0
                        · have HL : Hid (lowestOf lo1 (S1.length + 1) sm = (sm : Int)) := by unfold lowestOf; rw [if_pos ⟨by omega, .inl hlo⟩]; rfl
                          go_wp2
                          go_roundg (allT (gOf rows) rows.length - (roundsT (gOf rows) fin1 (f :: P) + 1))
                          case measure => omega
                          case rel => exact ⟨_, _, _, _, _, _, _, _, _, HEND.out, by rw [roundsT_pop _ _ _ _ HIE.out], hall1, H9, P9, by rw [HL.out], rfl, by simp⟩
                        · by_cases hsm : (sm : Int) < lo1
                          · have HL : Hid (lowestOf lo1 (S1.length + 1) sm = (sm : Int)) := by unfold lowestOf; rw [if_pos ⟨by omega, .inr hsm⟩]; rfl
                            go_wp2
                            go_roundg (allT (gOf rows) rows.length - (roundsT (gOf rows) fin1 (f :: P) + 1))
                            case measure => omega
                            case rel => exact ⟨_, _, _, _, _, _, _, _, _, HEND.out, by rw [roundsT_pop _ _ _ _ HIE.out], hall1, H9, P9, by rw [HL.out], rfl, by simp⟩
                          · have HL : Hid (lowestOf lo1 (S1.length + 1) sm = lo1) := by unfold lowestOf; rw [if_neg (by rintro ⟨_, h | h⟩ <;> omega)]; rfl
                            go_wp2
                            go_roundg (allT (gOf rows) rows.length - (roundsT (gOf rows) fin1 (f :: P) + 1))
                            case measure => omega
                            case rel => exact ⟨_, _, _, _, _, _, _, _, _, HEND.out, by rw [roundsT_pop _ _ _ _ HIE.out], hall1, H9, P9, by rw [HL.out], rfl, by simp⟩
                      · have HL : Hid (lowestOf lo1 (S1.length + 1) sm = lo1) := by unfold lowestOf; rw [if_neg (by rintro ⟨h, _⟩; omega)]; rfl
                        go_wp2
                        go_roundg (allT (gOf rows) rows.length - (roundsT (gOf rows) fin1 (f :: P) + 1))
                        case measure => omega
                        case rel => exact ⟨_, _, _, _, _, _, _, _, _, HEND.out, by rw [roundsT_pop _ _ _ _ HIE.out], hall1, H9, P9, by rw [HL.out], rfl, by simp⟩
                    | cons y S3 =>
                      as_aux_lemma =>
                      have hM8' : TM w w.heap.size L O C B rows.length wr d1 low2 (closeOf comp1 c1 S1) (y :: (S3 ++ f.v :: R0)) u7 := hM8
                      clear hM8
                      have hM8 := hM8'
                      clear hM8'
                      obtain ⟨gs, caps, rfl, hgs1, hgs2, hgs3, hgs4, cs, zs, hops⟩ := OwnS.top hM8.s
                      have hstk : stack = S1 ++ y :: (S3 ++ f.v :: R0) := by rw [HST.out, HS.out]; simp
                      have hyn : y < rows.length := (hT.dlt y (hT.sd y (by rw [hstk]; simp))).1
                      have hy1 : y ∉ S3 ++ f.v :: R0 := by
                        have h1 := HND.out
                        rw [hstk, List.nodup_append] at h1
                        exact (List.nodup_cons.1 h1.2.1).1
                      have hyv : ((y : Int) == (f.v : Int)) = false := by
                        rw [beq_eq_false_iff_ne]
                        intro e
                        exact hy1 (by simp [Int.ofNat.inj e])
                      have HY1 : Hid (y ∉ S3 ++ f.v :: R0) := hy1
                      clear hy1 hstk
                      have hlen2 : (S3 ++ f.v :: R0).length ≤ 65536 := by simp at hS1l ⊢; omega
                      generalize hR : S3 ++ f.v :: R0 = R1 at *
                      have HR : Hid (S3 ++ f.v :: R0 = R1) := hR
                      clear hR
                      have zO := hM8.o.frozen y
                      have cO := hM8.o.cell hyn
                      have hOC : C ≠ O := by have h4 := HB.d; omega
                      have rC := hM8.c.setOther (a := ⟨O, y, none⟩) hOC (.bool false)
                      have cC := rC.cell hyn
                      have zC := rC.frozen y
                      simp at hS1l
                      go_wp2
                      all_goals
                        go_roundg S3.length
                        case measure => omega
                        case rel =>
                          have hB1 : O < B ∧ C < B := by have h3 := HB.d; have h4 := HB.e; omega
                          have H9 := hM8.close (c := c1) HB HY1.out hops
                          rw [close_snoc] at H9
                          exact ⟨S1 ++ [y], S3, min sm y, rfl, by rw [HS.out]; simp, hPop.step, by rw [HR.out]; exact H9, (hP8.under O hB1.1 _).under C hB1.2 _, by simp, congrArg (Value.int .i64) (by omega)⟩
                · as_aux_lemma =>
                  have hq : ((low1 f.v : Int) != (d1 f.v : Int)) = true := by simp [hlow]; omega
                  have HLW : Hid (low1 f.v ≠ d1 f.v) := hlow
                  clear hlow heq6 H5 P5 hl2
                  go_wp2
                  go_quiet (fail)
                  go_wp2
                  go_roundg (allT (gOf rows) rows.length - (roundsT (gOf rows) fin1 (f :: P) + 1))
                  case measure =>
                    have h1 := roundsT_le (hne6 HLW.out)
                    rw [roundsT_pop _ _ _ _ HIE.out] at h1
                    omega
                  case rel => exact ⟨_, _, _, _, _, _, _, _, _, hne6 HLW.out, by rw [roundsT_pop _ _ _ _ HIE.out], hall1, H6.drew _, P6.drew _, rfl, rfl, rfl⟩
      · as_aux_lemma =>
        have hq : ((d k : Int) != 0) = true := by simp [hk0]
        go_wp2
        go_roundw
        case rel =>
          refine ⟨k + 1, by omega, by go_num, d, low, comp, fin, count, c, lo, hT, fun v hv => ?_, hM, rfl, rfl, rfl⟩
          by_cases e : v = k
          · subst e; exact hk0
          · exact hall v (by omega)
        case measure => simp [intOf]; omega
    · go_wp2
      obtain rfl : k = rows.length := by omega
      go_ret2
      exact ⟨⟨C, lo, comp, c, hT.res hall, by have h1 := HB.a; have h2 := HB.b; have h3 := HB.c; have h4 := HB.d; omega, rfl, hM.c⟩, hM.b⟩
end Go.Proofs.Qxb6602302a

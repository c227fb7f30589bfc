/-
  The walk of zzKosaraju.
-/
import Derived.Test.Qxb6602302aKosO
import Derived.Deep.CutBlock
namespace Go.Proofs.Qxb6602302a
open Go.RowKit
set_option linter.unusedVariables false
set_option linter.unusedSimpArgs false

/-- What a call of zzKosaraju hands back. -/
def KosRet (rows : List (List Int)) (w : World) (e : Ending) (w' : World) : Prop :=
  ∃ C kc k, KosRes (gOf rows) rows.length kc k ∧ k ≤ rows.length ∧ w.heap.size ≤ C ∧ e = .returned (.tuple #[.slice (some ⟨C, 0, none⟩) rows.length rows.length, .int .i64 (k : Int)]) ∧ w'.rowIs C 3 rows.length (fun i => .int .i64 (kc i))

/-- Behind the first search. -/
def Ph1 (rows : List (List Int)) (w : World) (O B : Nat) (s7 : Value) (wc : World) : Prop :=
  ∃ order, (∀ v, v < rows.length ↔ v ∈ order) ∧ order.Nodup ∧ order.length = rows.length ∧ Fin (gOf rows) order ∧ s7 = .slice (some ⟨O, 0, none⟩) rows.length rows.length ∧ OrdF wc O rows.length order ∧ Below w.heap.size w wc ∧ B ≤ wc.heap.size

def P1out (rows : List (List Int)) (w : World) (V O S X B : Nat) (gk : Nat) (s7 s8 s9 s10 : Value) (wr : World) : Prop :=
  ∃ k order vis, k ≤ rows.length ∧ gk = rows.length - k ∧ s10 = .int .i64 (k : Int) ∧ K1 (gOf rows) rows.length order [] vis ∧ (∀ v, v < k → vis v = true) ∧ KM w V O S X B rows.length wr order [] vis ∧
    s7 = .slice (some ⟨O, 0, none⟩) order.length rows.length ∧ s8 = .slice (some ⟨S, 0, none⟩) 0 rows.length ∧ s9 = .slice (some ⟨X, 0, none⟩) 0 rows.length
def P1in (rows : List (List Int)) (w : World) (V O S X B : Nat) (k gk : Nat) (s7 s8 s9 : Value) (wr : World) : Prop :=
  ∃ order st vis, gk = allRounds (gOf rows) rows.length - rounds1 (gOf rows) order st ∧ K1 (gOf rows) rows.length order st vis ∧ (∀ v, v < k + 1 → vis v = true) ∧ KM w V O S X B rows.length wr order st vis ∧
    s7 = .slice (some ⟨O, 0, none⟩) order.length rows.length ∧ s8 = .slice (some ⟨S, 0, none⟩) st.length rows.length ∧ s9 = .slice (some ⟨X, 0, none⟩) st.length rows.length

set_option maxRecDepth 8000 in
set_option maxHeartbeats 8000000 in
theorem kosW (sa : Option Addr) (sc : Nat) (rows : List (List Int)) (w : World) (hn : rows.length ≤ 65536) (hd : InDom rows) (hlen : ∀ v, (gOf rows v).length ≤ 1048576) (htot : (pre (gOf rows) rows.length 0).length ≤ 1048576) (hrows : RowsOf w sa rows) :
    Calls Try.prog 11 #[.int .i64 (rows.length : Int), .slice sa rows.length sc] w fun e w' => KosRet rows w e w' ∧ Below w.heap.size w w' := by
  obtain ⟨i3, h3, h3z, h3s, h3b⟩ := info_parts Try.info3
  obtain ⟨i4, h4, h4z, h4s, h4b⟩ := info_parts Try.info4
  have tok1 : True := trivial
  have tok2 : True := trivial
  have tok3 : True := trivial
  have tok4 : True := trivial
  go_enter Try.func11, Try.ntmps11
  go_upto_block 0 with (first
    | (at_make; have _t := tok1; refine wpList_mk _ rfl _ _ 53 rfl 4 i4 _ Try.underlying53 h4 h4z h4s rfl .i64 .i64 _ _ rows.length rows.length rfl rfl rfl rfl (Nat.le_refl _) (by rw [h4b]; omega) (by unfold maxLen; omega) ?_; intro w1 z1 r1 g1; clear tok1; have Z1 : Hid (w1.heap.size = w.heap.size + 1) := z1; clear z1)
    | (at_make; have _t := tok2; refine wpList_mk _ rfl _ _ 25 rfl 3 i3 _ Try.underlying25 h3 h3z h3s rfl .i64 .i64 _ _ 0 rows.length rfl rfl rfl rfl (Nat.zero_le _) (by rw [h3b]; omega) (by unfold maxLen; omega) ?_; intro w2 z2 r2 g2; clear tok2; have Z2 : Hid (w2.heap.size = w1.heap.size + 1) := z2; clear z2)
    | (at_make; have _t := tok3; refine wpList_mk _ rfl _ _ 25 rfl 3 i3 _ Try.underlying25 h3 h3z h3s rfl .i64 .i64 _ _ 0 rows.length rfl rfl rfl rfl (Nat.zero_le _) (by rw [h3b]; omega) (by unfold maxLen; omega) ?_; intro w3 z3 r3 g3; clear tok3; have Z3 : Hid (w3.heap.size = w2.heap.size + 1) := z3; clear z3)
    | (at_make; have _t := tok4; refine wpList_mk _ rfl _ _ 25 rfl 3 i3 _ Try.underlying25 h3 h3z h3s rfl .i64 .i64 _ _ 0 rows.length rfl rfl rfl rfl (Nat.zero_le _) (by rw [h3b]; omega) (by unfold maxLen; omega) ?_; intro w4 z4 r4 g4; clear tok4; have Z4 : Hid (w4.heap.size = w3.heap.size + 1) := z4; clear z4))
  have HKM := KM.start Z1.out Z2.out Z3.out Z4.out r1 r2 r3 r4 g1 g2 g3 g4
  have HB : Blk4 w.heap.size w.heap.size w1.heap.size w2.heap.size w3.heap.size w4.heap.size := by
    have a1 := Z1.out; have a2 := Z2.out; have a3 := Z3.out; have a4 := Z4.out
    exact ⟨Nat.le_refl _, by omega, by omega, by omega, by omega⟩
  clear Z1 Z2 Z3 Z4 r1 r2 r3 r4 g1 g2 g3 g4
  generalize w1.heap.size = O at *
  generalize w2.heap.size = S at *
  generalize w3.heap.size = X at *
  generalize w4.heap.size = B at *
  go_cut [7] from 35 (fun s7 wc => Ph1 rows w O B s7 wc)
  case first =>
    as_aux_lemma =>
    go_wp2
    go_loopg [7, 8, 9, 10] rows.length (fun gk s7 s8 s9 s10 wr => P1out rows w w.heap.size O S X B gk s7 s8 s9 s10 wr)
    case atStart => exact ⟨0, [], fun _ => false, Nat.zero_le _, by omega, rfl, K1.start _ _, fun v hv => absurd hv (by omega), HKM, rfl, rfl, rfl⟩
    case round =>
      clear HKM
      obtain ⟨k, order, vis, hk, hgk, rfl, hK, hall, hM, rfl, rfl, rfl⟩ := hrel
      by_cases hlt : k < rows.length
      · have cV := hM.v.cell hlt
        have zV := hM.v.frozen k
        by_cases hv : vis k = true
        · as_aux_lemma =>
          rw [hv] at cV
          have HV : Hid (vis k = true) := hv
          clear hv
          go_wp2
          go_roundg (rows.length - (k + 1))
          case measure => omega
          case rel =>
            refine ⟨k + 1, order, vis, by omega, rfl, by go_num, hK, fun v hv => ?_, hM, rfl, rfl, rfl⟩
            by_cases e : v = k
            · subst e; exact HV.out
            · exact hall v (by omega)
        · have hvf : vis k = false := by cases h : vis k; rfl; exact absurd h hv
          rw [hvf] at cV
          have HV : Hid (vis k = false) := hvf
          clear hv hvf
          obtain ⟨hs1, f1, hr1, hf1⟩ := hM.s
          obtain ⟨hx1, f2, hr2, hf2⟩ := hM.x
          have hVS : S ≠ w.heap.size := by have h1 := HB.b; have h2 := HB.c; omega
          have hVX : X ≠ w.heap.size := by have h1 := HB.b; have h2 := HB.c; have h3 := HB.d; omega
          have hSX : some X ≠ some S := by have h3 := HB.d; simp; omega
          have rS := ((hr1.setOther (a := ⟨w.heap.size, k, none⟩) hVS (.bool true)).alloc (.cells #[.int .i64 (k : Int)] 3))
          have rX := ((hr2.setOther (a := ⟨w.heap.size, k, none⟩) hVX (.bool true)).alloc (.cells #[.int .i64 (k : Int)] 3))
          have tok1 : True := trivial
          go_wp2_with (first
            | (at_builtin; have _t := tok1; refine wpList_push _ rfl _ _ 25 rfl 3 i3 Try.underlying25 h3 h3s S 0 rows.length f1 rfl rS ⟨wr.heap.size, 0, none⟩ 1 (.int .i64 (k : Int)) rfl (cell_new _ _ _ _ (by simp)) rfl (by omega) ?_; intro w2 z2 r2 g2; clear tok1; have rX2 := (rowIs_kept rX g2 hSX).alloc (.cells #[.int .i64 0] 3); have Z2 : Hid (w2.heap.size = _) := z2; clear z2)
            | (at_builtin; refine wpList_push _ rfl _ _ 25 rfl 3 i3 Try.underlying25 h3 h3s X 0 rows.length f2 rfl rX2 ⟨w2.heap.size, 0, none⟩ 1 (.int .i64 0) rfl (cell_new _ _ _ _ (by simp)) rfl (by omega) ?_; intro w4 z4 r4 g4; have Z4 : Hid (w4.heap.size = _) := z4; clear z4))
          have HM2 := hM.push (gk := order.length) HB (by simp; omega) rfl g2 r2 hf1 rfl g4 r4 hf2
          have hK2 := hK.push hlt HV.out (by simp)
          have hall2 : ∀ v, v < k + 1 → (if v = k then true else vis v) = true := fun v hv => by
            by_cases e : v = k
            · rw [if_pos e]
            · rw [if_neg e]; exact hall v (by omega)
          clear hM hK hall rS rX rX2 r2 r4 g2 g4 hr1 hr2 cV zV Z2 Z4
          obtain ⟨wo, rfl⟩ : ∃ wo : World, wo = wr := ⟨_, rfl⟩
          go_loopg [7, 8, 9] (allRounds (gOf rows) rows.length - rounds1 (gOf rows) order [⟨k, 0, order.length⟩]) (fun gk s7 s8 s9 wr => P1in rows w w.heap.size O S X B k gk s7 s8 s9 wr)
          case atStart => exact ⟨order, _, _, rfl, hK2, hall2, HM2, rfl, rfl, rfl⟩
          case round =>
            clear HM2 hK2 hall2
            obtain ⟨order1, st, vis1, hgk1, hK, hall1, hM, rfl, rfl, rfl⟩ := hrel
            cases st with
            | nil =>
              as_aux_lemma =>
              simp only [List.length_nil]
              go_wp2
              go_roundg (rows.length - (k + 1))
              case measure => omega
              case rel => exact ⟨k + 1, order1, vis1, by omega, rfl, by go_num, hK, hall1, hM, rfl, rfl, rfl⟩
            | cons f P =>
              simp only [List.length_cons]
              have hs0 := hM.s
              have hx0 := hM.x
              simp only [List.map_cons] at hs0 hx0
              obtain ⟨cs, zs, hsl⟩ := hs0.top
              obtain ⟨cx, zx, hxl⟩ := hx0.top
              simp only [List.length_map] at cs zs hsl cx zx hxl
              have hfn := hK.v_lt
              have hkl := hK.len
              simp only [List.length_cons] at hkl
              rcases hrows with hr0 | ⟨b, off, rfl, hrA⟩
              · simp [hr0] at hfn
              have hrB := hrA.below hM.b
              obtain ⟨ao, rc, crow, hel⟩ := row_read hrB hd hfn
              have hl1 := hlen f.v
              clear hs0 hx0
              by_cases hi : f.i < (gOf rows f.v).length
              · obtain ⟨x, hx⟩ : ∃ x, (gOf rows f.v)[f.i]? = some x := ⟨_, List.getElem?_eq_getElem hi⟩
                obtain ⟨b', off', rfl, cel⟩ := hel f.i x hx
                have hxn : x < rows.length := gOf_lt hd (List.mem_iff_getElem?.2 ⟨f.i, hx⟩)
                have HX : Hid ((gOf rows f.v)[f.i]? = some x) := hx
                clear hx hel
                have HA := hM.adv HB
                have cV := HA.v.cell hxn
                have zV := HA.v.frozen x
                have hrC := hrA.below HA.b
                have crow2 : (wr.setCell ⟨X, P.length, none⟩ (.int .i64 ((f.i : Int) + 1))).cell? ⟨b, off + f.v, none⟩ = some (.slice (some ⟨b', off', none⟩) (gOf rows f.v).length rc) := by
                  have hbl : b < w.heap.size := by
                    obtain ⟨r, hr⟩ : ∃ r, rows[f.v]? = some r := ⟨_, List.getElem?_eq_getElem hfn⟩
                    obtain ⟨_, _, h1, _⟩ := hrA f.v r hr
                    exact lt_of_cell h1
                  rw [World.cell?_of_block (w := wr) ((grown_set wr ⟨X, P.length, none⟩ (.int .i64 ((f.i : Int) + 1))).block b (by have := hM.b.size; show b < wr.heap.size; omega) (by have h1 := HB.b; have h2 := HB.c; have h3 := HB.d; simp; omega))]
                  exact crow
                have cel2 : (wr.setCell ⟨X, P.length, none⟩ (.int .i64 ((f.i : Int) + 1))).cell? ⟨b', off' + f.i, none⟩ = some (.int .i64 (x : Int)) := by
                  obtain ⟨ao3, rc3, c3, hel3⟩ := row_read hrC hd hfn
                  rw [crow2] at c3
                  injection c3 with c3
                  injection c3 with c31 c32 c33
                  obtain ⟨b3, off3, e3, cel3⟩ := hel3 f.i x HX.out
                  rw [← c31] at e3
                  injection e3 with e3
                  injection e3 with e31 e32
                  subst e31
                  subst e32
                  exact cel3
                clear cel hrC hrB
                by_cases hv : vis1 x = true
                · as_aux_lemma =>
                  rw [hv] at cV
                  have HV : Hid (vis1 x = true) := hv
                  clear hv
                  go_wp2
                  go_roundg (allRounds (gOf rows) rows.length - (rounds1 (gOf rows) order1 (f :: P) + 1))
                  case measure =>
                    have h1 := rounds1_le (hK.skip HX.out HV.out)
                    rw [rounds1_skip] at h1
                    omega
                  case rel => exact ⟨order1, _, vis1, by rw [← rounds1_skip], hK.skip HX.out HV.out, hall1, HA, rfl, rfl, rfl⟩
                · as_aux_lemma =>
                  have hvf : vis1 x = false := by cases h : vis1 x; rfl; exact absurd h hv
                  rw [hvf] at cV
                  have HV : Hid (vis1 x = false) := hvf
                  clear hv hvf
                  obtain ⟨hs1, f1, hr1, hf1⟩ := HA.s
                  obtain ⟨hx1, f2, hr2, hf2⟩ := HA.x
                  have hVS : S ≠ w.heap.size := by have h1 := HB.b; have h2 := HB.c; omega
                  have hVX : X ≠ w.heap.size := by have h1 := HB.b; have h2 := HB.c; have h3 := HB.d; omega
                  have hSX : some X ≠ some S := by have h3 := HB.d; simp; omega
                  have hnew : P.length + 1 < rows.length := by
                    have h1 := (hK.child HX.out hxn HV.out).len
                    simp at h1
                    omega
                  have rS := ((hr1.setOther (a := ⟨w.heap.size, x, none⟩) hVS (.bool true)).alloc (.cells #[.int .i64 (x : Int)] 3))
                  have rX := ((hr2.setOther (a := ⟨w.heap.size, x, none⟩) hVX (.bool true)).alloc (.cells #[.int .i64 (x : Int)] 3))
                  have tok1 : True := trivial
                  go_wp2_with (first
                    | (at_builtin; have _t := tok1; refine wpList_push _ rfl _ _ 25 rfl 3 i3 Try.underlying25 h3 h3s S (P.length + 1) rows.length f1 rfl rS ⟨wr.heap.size, 0, none⟩ 1 (.int .i64 (x : Int)) rfl (cell_new _ _ _ _ (by simp)) rfl (by omega) ?_; intro w2 z2 r2 g2; clear tok1; have rX2 := (rowIs_kept rX g2 hSX).alloc (.cells #[.int .i64 0] 3); have Z2 : Hid (w2.heap.size = _) := z2; clear z2)
                    | (at_builtin; refine wpList_push _ rfl _ _ 25 rfl 3 i3 Try.underlying25 h3 h3s X (P.length + 1) rows.length f2 rfl rX2 ⟨w2.heap.size, 0, none⟩ 1 (.int .i64 0) rfl (cell_new _ _ _ _ (by simp)) rfl (by omega) ?_; intro w4 z4 r4 g4; have Z4 : Hid (w4.heap.size = _) := z4; clear z4))
                  have HM2 := HA.push (gk := order1.length) HB (by simp; omega) rfl g2 r2 hf1 rfl g4 r4 hf2
                  go_roundg (allRounds (gOf rows) rows.length - (rounds1 (gOf rows) order1 (f :: P) + 1))
                  case measure =>
                    have h1 := rounds1_le (hK.child HX.out hxn HV.out)
                    rw [rounds1_child] at h1
                    omega
                  case rel =>
                    refine ⟨order1, _, _, by rw [← rounds1_child _ _ _ _ x order1.length], hK.child HX.out hxn HV.out, fun v hv => ?_, HM2, rfl, rfl, rfl⟩
                    show (if v = x then true else vis1 v) = true
                    by_cases e : v = x
                    · rw [if_pos e]
                    · rw [if_neg e]; exact hall1 v hv
              · as_aux_lemma =>
                have hie : f.i = (gOf rows f.v).length := by have := hK.i_le; omega
                have HIE : Hid (f.i = (gOf rows f.v).length) := hie
                clear hie hel
                have hilt : ¬ ((f.i : Int) < ((gOf rows f.v).length : Int)) := by omega
                obtain ⟨ho1, f1, hr1, hf1⟩ := hM.o
                have rO := hr1.alloc (.cells #[.int .i64 (f.v : Int)] 3)
                go_wp2_with (at_builtin; refine wpList_push _ rfl _ _ 25 rfl 3 i3 Try.underlying25 h3 h3s O order1.length rows.length f1 rfl rO ⟨wr.heap.size, 0, none⟩ 1 (.int .i64 (f.v : Int)) rfl (cell_new _ _ _ _ (by simp)) rfl (by omega) ?_; intro w2 z2 r2 g2; have Z2 : Hid (w2.heap.size = _) := z2; clear z2)
                have HM2 := hM.finish HB (by omega) rfl g2 r2 hf1
                go_roundg (allRounds (gOf rows) rows.length - (rounds1 (gOf rows) order1 (f :: P) + 1))
                case measure =>
                  have h1 := rounds1_le (hK.finish HIE.out)
                  rw [rounds1_finish _ _ _ _ HIE.out] at h1
                  omega
                case rel => exact ⟨_, P, vis1, by rw [← rounds1_finish _ _ _ _ HIE.out], hK.finish HIE.out, hall1, HM2, by simp, rfl, rfl⟩
      · as_aux_lemma =>
        obtain rfl : k = rows.length := by omega
        go_wp2
        go_meet
        case rel =>
          obtain ⟨h1, h2, h3⟩ := hK.all hall
          exact ⟨order, h1, h2, h3, hK.fin, by rw [h3], hM.o, hM.b, hM.z⟩
  case rest =>
    clear HKM
    obtain ⟨order, hall, hnd, hol, hfin, rfl, hO, hb0, hz0⟩ := hcut
    have HORD : Hid ((∀ v, v < rows.length ↔ v ∈ order) ∧ order.Nodup ∧ order.length = rows.length ∧ Fin (gOf rows) order) := ⟨hall, hnd, hol, hfin⟩
    clear hall hnd hol hfin
    have hON : w.heap.size < O := by have h1 := HB.b; omega
    have hOB : O < wc.heap.size := by have h2 := HB.c; have h3 := HB.d; have h4 := HB.e; omega
    go_upto_block 4 with (at_make; refine wpList_mk _ rfl _ _ 25 rfl 3 i3 _ Try.underlying25 h3 h3z h3s rfl .i64 .i64 _ _ (rows.length + 1) (rows.length + 1) rfl rfl (by simp) (by simp) (Nat.le_refl _) (by rw [h3b]; omega) (by unfold maxLen; omega) ?_; intro w5 z5 r5 g5; have Z5 : Hid (w5.heap.size = wc.heap.size + 1) := z5; clear z5)
    have H2 := Row1.start hO hb0 Z5.out r5 g5
    have hNST : w.heap.size ≤ wc.heap.size := by omega
    clear hO hb0 hz0 r5 g5 Z5 HB
    generalize wc.heap.size = ST at *
    have hne : O ≠ ST := by omega
    have hdt := pre_tgt hd
    go_cut [] from 35 (fun wc => Row1 w O ST (rows.length + 1) rows.length order (cntOf (pre (gOf rows) rows.length 0)) wc)
    case first =>
      as_aux_lemma =>
      go_wp2
      go_loopg [16] rows.length (fun gk s16 wr => ∃ v : Nat, v ≤ rows.length ∧ gk = rows.length - v ∧ s16 = .int .i64 (v : Int) ∧ Row1 w O ST (rows.length + 1) rows.length order (cntOf (pre (gOf rows) v 0)) wr)
      case atStart => exact ⟨0, Nat.zero_le _, by omega, rfl, H2.congr (fun i _ => by rw [pre_zero, cntOf_nil])⟩
      case round =>
        clear H2
        obtain ⟨v, hv, hgk, rfl, hM⟩ := hrel
        by_cases hlt : v < rows.length
        · rcases hrows with hr0 | ⟨b, off, rfl, hrA⟩
          · simp [hr0] at hlt
          obtain ⟨ao, rc, crow0, hel⟩ := row_read hrA hd hlt
          have crow := (hM.b.cell (p := ⟨b, off + v, none⟩) (lt_of_cell crow0)).trans crow0
          have hl1 := hlen v
          go_wp2
          clear crow crow0
          obtain ⟨wo, rfl⟩ : ∃ wo : World, wo = wr := ⟨_, rfl⟩
          go_loopg [133] (gOf rows v).length (fun gk s133 wr => ∃ j : Nat, j ≤ (gOf rows v).length ∧ gk = (gOf rows v).length - j ∧ s133 = .int .i64 (j : Int) ∧ Row1 w O ST (rows.length + 1) rows.length order (cntOf (pre (gOf rows) v j)) wr)
          case atStart => exact ⟨0, Nat.zero_le _, by omega, rfl, hM⟩
          case round =>
            clear hM
            obtain ⟨j, hj, hgk1, rfl, hM⟩ := hrel
            by_cases hjl : j < (gOf rows v).length
            · obtain ⟨x, hx⟩ : ∃ x, (gOf rows v)[j]? = some x := ⟨_, List.getElem?_eq_getElem hjl⟩
              obtain ⟨b', off', rfl, cel0⟩ := hel j x hx
              have cel := (hM.b.cell (p := ⟨b', off' + j, none⟩) (lt_of_cell cel0)).trans cel0
              have hxn : x < rows.length := gOf_lt hd (List.mem_iff_getElem?.2 ⟨j, hx⟩)
              have HX : Hid ((gOf rows v)[j]? = some x) := hx
              clear hx hel cel0
              have cS := hM.r.cell (i := x + 1) (by omega)
              have zS := hM.r.frozen (x + 1)
              have hcb : cntOf (pre (gOf rows) v j) (x + 1) ≤ 1048576 := by
                have h1 := pre_len_le (gOf rows) hlt HX.out
                have h2 := srcs_len (pre (gOf rows) v j) x
                show (srcs (pre (gOf rows) v j) x).length ≤ 1048576
                omega
              go_wp2
              go_roundg ((gOf rows v).length - (j + 1))
              case measure => omega
              case rel =>
                refine ⟨j + 1, by omega, rfl, by go_num, (hM.set hne hNST (x + 1) (cntOf (pre (gOf rows) v j) (x + 1) + 1) (by simp)).congr fun i _ => ?_⟩
                rw [pre_step HX.out, cntOf_snoc]
                unfold upd
                by_cases e : i = x + 1
                · subst e; simp
                · rw [if_neg e, if_neg e]
            · obtain rfl : j = (gOf rows v).length := by omega
              go_wp2
              go_roundg (rows.length - (v + 1))
              case measure => omega
              case rel => exact ⟨v + 1, by omega, rfl, by go_num, by rw [← pre_row]; exact hM⟩
        · obtain rfl : v = rows.length := by omega
          go_wp2
          go_meet
          case rel => exact hM
    case rest =>
      clear H2
      have H3 := hcut.congr (fun i _ => pfx_zero _ i)
      clear hcut
      go_upto_block 8 with (fail)
      go_cut [] from 35 (fun wc => Row1 w O ST (rows.length + 1) rows.length order (st (pre (gOf rows) rows.length 0)) wc)
      case first =>
        as_aux_lemma =>
        go_wp2
        go_loopg [19] rows.length (fun gk s19 wr => ∃ v : Nat, v ≤ rows.length ∧ gk = rows.length - v ∧ s19 = .int .i64 (v : Int) ∧ Row1 w O ST (rows.length + 1) rows.length order (pfx (pre (gOf rows) rows.length 0) v) wr)
        case atStart => exact ⟨0, Nat.zero_le _, by omega, rfl, H3⟩
        case round =>
          clear H3
          obtain ⟨v, hv, hgk, rfl, hM⟩ := hrel
          by_cases hlt : v < rows.length
          · have c1 := hM.r.cell (i := v + 1) (by omega)
            have c0 := hM.r.cell (i := v) (by omega)
            have z1 := hM.r.frozen (v + 1)
            have HP : Hid (pfx (pre (gOf rows) rows.length 0) v (v + 1) + pfx (pre (gOf rows) rows.length 0) v v = st (pre (gOf rows) rows.length 0) (v + 1)) := pfx_at _ v
            have hpb : pfx (pre (gOf rows) rows.length 0) v (v + 1) + pfx (pre (gOf rows) rows.length 0) v v ≤ 1048576 := by
              rw [HP.out]
              exact Nat.le_trans (st_le _ hdt (by omega)) htot
            go_wp2
            go_region
            go_wp2
            go_roundg (rows.length - (v + 1))
            case measure => omega
            case rel => exact ⟨v + 1, by omega, rfl, by go_num, ((hM.set hne hNST (v + 1) (st (pre (gOf rows) rows.length 0) (v + 1)) (by rw [← HP.out]; simp)).congr (fun i _ => pfx_step _ v i)).drew⟩
          · obtain rfl : v = rows.length := by omega
            go_wp2
            go_meet
            case rel => exact hM.congr fun i hi => pfx_end _ _ i hi
      case rest =>
        clear H3
        have hstn : st (pre (gOf rows) rows.length 0) rows.length ≤ 1048576 := Nat.le_trans (st_le _ hdt (Nat.le_refl _)) htot
        have cSn := hcut.r.cell (i := rows.length) (by omega)
        have tok1 : True := trivial
        have tok2 : True := trivial
        go_upto_block 10 with (first
          | (at_make; have _t := tok1; refine wpList_mk _ rfl _ _ 25 rfl 3 i3 _ Try.underlying25 h3 h3z h3s rfl .i64 .i64 _ _ (st (pre (gOf rows) rows.length 0) rows.length) (st (pre (gOf rows) rows.length 0) rows.length) rfl rfl rfl rfl (Nat.le_refl _) (by rw [h3b]; omega) (by unfold maxLen; omega) ?_; intro w6 z6 r6 g6; clear tok1; have Z6 : Hid (w6.heap.size = wc.heap.size + 1) := z6; clear z6)
          | (at_make; have _t := tok2; refine wpList_mk _ rfl _ _ 25 rfl 3 i3 _ Try.underlying25 h3 h3z h3s rfl .i64 .i64 _ _ rows.length rows.length rfl rfl rfl rfl (Nat.le_refl _) (by rw [h3b]; omega) (by unfold maxLen; omega) ?_; intro w7 z7 r7 g7; clear tok2; have Z7 : Hid (w7.heap.size = w6.heap.size + 1) := z7; clear z7))
        have H4 := Row3.start hcut Z6.out r6 g6 Z7.out r7 g7
        have HB : BlkK w.heap.size O ST wc.heap.size w6.heap.size := by have a1 := Z6.out; have a2 := hcut.z; exact ⟨hON, hOB, a2, by omega⟩
        clear hcut cSn Z6 Z7 r6 r7 g6 g7
        generalize wc.heap.size = PR at *
        generalize w6.heap.size = FI at *
        obtain ⟨TT, hTT⟩ : ∃ TT, st (pre (gOf rows) rows.length 0) rows.length = TT := ⟨_, rfl⟩
        rw [hTT] at H4 hstn ⊢
        have HTT : Hid (st (pre (gOf rows) rows.length 0) rows.length = TT) := hTT
        clear hTT
        go_cut [] from 35 (fun wc => Row3 w O ST PR FI rows.length TT order (st (pre (gOf rows) rows.length 0)) (fun _ => 0) (st (pre (gOf rows) rows.length 0)) wc)
        case first =>
          as_aux_lemma =>
          go_wp2
          go_loopg [22] rows.length (fun gk s22 wr => ∃ v : Nat, v ≤ rows.length ∧ gk = rows.length - v ∧ s22 = .int .i64 (v : Int) ∧ Row3 w O ST PR FI rows.length TT order (st (pre (gOf rows) rows.length 0)) (fun _ => 0) (fun i => if i < v then st (pre (gOf rows) rows.length 0) i else 0) wr)
          case atStart => exact ⟨0, Nat.zero_le _, by omega, rfl, H4.congrQ (fun i _ => by simp)⟩
          case round =>
            clear H4
            obtain ⟨v, hv, hgk, rfl, hM⟩ := hrel
            by_cases hlt : v < rows.length
            · have c0 := hM.r1.r.cell (i := v) (by omega)
              have c1 := hM.q.cell (i := v) hlt
              have z1 := hM.q.frozen v
              go_wp2
              go_roundg (rows.length - (v + 1))
              case measure => omega
              case rel =>
                refine ⟨v + 1, by omega, rfl, by go_num, (hM.setQ HB v (st (pre (gOf rows) rows.length 0) v) rfl).congrQ fun i _ => ?_⟩
                unfold upd
                dsimp only
                by_cases e : i = v
                · subst e; rw [if_pos rfl, if_pos (by omega)]
                · rw [if_neg e]
                  by_cases h : i < v
                  · rw [if_pos h, if_pos (by omega)]
                  · rw [if_neg h, if_neg (by omega)]
            · obtain rfl : v = rows.length := by omega
              go_wp2
              go_meet
              case rel => exact hM.congrQ fun i hi => by rw [if_pos hi]
        case rest =>
          clear H4
          have H5 : Laid w O ST PR FI rows.length TT order (pre (gOf rows) rows.length 0) [] wc := ⟨_, hcut.congrQ (fun i _ => by simp [srcs_nil]), Filled.start _ _⟩
          clear hcut
          go_upto_block 12 with (fail)
          go_cut [] from 35 (fun wc => Laid w O ST PR FI rows.length TT order (pre (gOf rows) rows.length 0) (pre (gOf rows) rows.length 0) wc)
          case first =>
            as_aux_lemma =>
            go_wp2
            go_loopg [23] rows.length (fun gk s23 wr => ∃ v : Nat, v ≤ rows.length ∧ gk = rows.length - v ∧ s23 = .int .i64 (v : Int) ∧ Laid w O ST PR FI rows.length TT order (pre (gOf rows) rows.length 0) (pre (gOf rows) v 0) wr)
            case atStart => exact ⟨0, Nat.zero_le _, by omega, rfl, by rw [pre_zero]; exact H5⟩
            case round =>
              clear H5
              obtain ⟨v, hv, hgk, rfl, hL⟩ := hrel
              by_cases hlt : v < rows.length
              · rcases hrows with hr0 | ⟨b, off, rfl, hrA⟩
                · simp [hr0] at hlt
                obtain ⟨ao, rc, crow0, hel⟩ := row_read hrA hd hlt
                have hbel : Below w.heap.size w wr := by obtain ⟨_, h1, _⟩ := hL; exact h1.r1.b
                have crow := (hbel.cell (p := ⟨b, off + v, none⟩) (lt_of_cell crow0)).trans crow0
                have hl1 := hlen v
                go_wp2
                clear crow crow0 hbel
                obtain ⟨wo, rfl⟩ : ∃ wo : World, wo = wr := ⟨_, rfl⟩
                go_loopg [190] (gOf rows v).length (fun gk s190 wr => ∃ j : Nat, j ≤ (gOf rows v).length ∧ gk = (gOf rows v).length - j ∧ s190 = .int .i64 (j : Int) ∧ Laid w O ST PR FI rows.length TT order (pre (gOf rows) rows.length 0) (pre (gOf rows) v j) wr)
                case atStart => exact ⟨0, Nat.zero_le _, by omega, rfl, hL⟩
                case round =>
                  clear hL
                  obtain ⟨j, hj, hgk1, rfl, hL⟩ := hrel
                  by_cases hjl : j < (gOf rows v).length
                  · obtain ⟨x, hx⟩ : ∃ x, (gOf rows v)[j]? = some x := ⟨_, List.getElem?_eq_getElem hjl⟩
                    obtain ⟨pred, hM, hF⟩ := hL
                    obtain ⟨b', off', rfl, cel0⟩ := hel j x hx
                    have cel := (hM.r1.b.cell (p := ⟨b', off' + j, none⟩) (lt_of_cell cel0)).trans cel0
                    have hxn : x < rows.length := gOf_lt hd (List.mem_iff_getElem?.2 ⟨j, hx⟩)
                    have HX : Hid ((gOf rows v)[j]? = some x) := hx
                    clear hx hel cel0
                    obtain ⟨rest, hall⟩ := pre_prefix (gOf rows) hlt HX.out
                    have hpos := fill_pos hall hxn
                    rw [HTT.out] at hpos
                    have hF2 := hF.step hall
                    have HF2 : Hid (Filled (pre (gOf rows) rows.length 0) (pre (gOf rows) v j ++ [(v, x)]) (upd pred (st (pre (gOf rows) rows.length 0) x + (srcs (pre (gOf rows) v j) x).length) v)) := hF2
                    clear hF2 hF hall
                    have cF := hM.q.cell hxn
                    have hMP := hM.setP HB (st (pre (gOf rows) rows.length 0) x + (srcs (pre (gOf rows) v j) x).length) v rfl
                    have cF2 := hMP.q.cell hxn
                    have zF2 := hMP.q.frozen x
                    have hMQ := hMP.setQ HB x (st (pre (gOf rows) rows.length 0) x + (srcs (pre (gOf rows) v j) x).length + 1) (x := ((st (pre (gOf rows) rows.length 0) x + (srcs (pre (gOf rows) v j) x).length : Nat) : Int) + 1) (by simp)
                    have HQE : Hid (∀ i, i < rows.length → upd (fun i => st (pre (gOf rows) rows.length 0) i + (srcs (pre (gOf rows) v j) i).length) x (st (pre (gOf rows) rows.length 0) x + (srcs (pre (gOf rows) v j) x).length + 1) i = st (pre (gOf rows) rows.length 0) i + (srcs (pre (gOf rows) v j ++ [(v, x)]) i).length) := by
                      intro i _
                      unfold upd
                      by_cases e : i = x
                      · subst e; rw [if_pos rfl, srcs_snoc]; simp; omega
                      · rw [if_neg e, srcs_other _ e]
                    generalize st (pre (gOf rows) rows.length 0) x + (srcs (pre (gOf rows) v j) x).length = pos at *
                    have cP := hM.p.cell hpos
                    have zP := hM.p.frozen pos
                    go_wp2
                    go_roundg ((gOf rows v).length - (j + 1))
                    case measure => omega
                    case rel => exact ⟨j + 1, by omega, rfl, by go_num, _, by rw [pre_step HX.out]; exact hMQ.congrQ HQE.out, by rw [pre_step HX.out]; exact HF2.out⟩
                  · obtain rfl : j = (gOf rows v).length := by omega
                    go_wp2
                    go_roundg (rows.length - (v + 1))
                    case measure => omega
                    case rel => exact ⟨v + 1, by omega, rfl, by go_num, by rw [← pre_row]; exact hL⟩
              · obtain rfl : v = rows.length := by omega
                go_wp2
                go_meet
                case rel => exact hL
          case rest =>
            clear H5
            obtain ⟨pred, hR, hF⟩ := hcut
            have HF : Hid (Filled (pre (gOf rows) rows.length 0) (pre (gOf rows) rows.length 0) pred) := hF
            clear hF
            go_upto_block 16 with (at_make; refine wpList_mk _ rfl _ _ 25 rfl 3 i3 _ Try.underlying25 h3 h3z h3s rfl .i64 .i64 _ _ rows.length rows.length rfl rfl rfl rfl (Nat.le_refl _) (by rw [h3b]; omega) (by unfold maxLen; omega) ?_; intro w8 z8 r8 g8; have Z8 : Hid (w8.heap.size = wc.heap.size + 1) := z8; clear z8)
            have H6 := CM.start hR HB Z8.out r8 g8
            have HC : BlkC w.heap.size O ST PR FI wc.heap.size := ⟨HB, hR.z⟩
            clear hR r8 g8 Z8
            generalize wc.heap.size = CO at *
            go_cut [] from 35 (fun wc => CM w O ST PR FI CO rows.length TT order (st (pre (gOf rows) rows.length 0)) pred (fun _ => -1) wc)
            case first =>
              as_aux_lemma =>
              go_wp2
              go_loopg [27] rows.length (fun gk s27 wr => ∃ v : Nat, v ≤ rows.length ∧ gk = rows.length - v ∧ s27 = .int .i64 (v : Int) ∧ CM w O ST PR FI CO rows.length TT order (st (pre (gOf rows) rows.length 0)) pred (fun i => if i < v then -1 else 0) wr)
              case atStart => exact ⟨0, Nat.zero_le _, by omega, rfl, H6.congr (fun i _ => by simp)⟩
              case round =>
                clear H6
                obtain ⟨v, hv, hgk, rfl, hM⟩ := hrel
                by_cases hlt : v < rows.length
                · have c1 := hM.c.cell (i := v) hlt
                  have z1 := hM.c.frozen v
                  go_wp2
                  go_roundg (rows.length - (v + 1))
                  case measure => omega
                  case rel =>
                    refine ⟨v + 1, by omega, rfl, by go_num, (hM.set HC v (-1)).congr fun i _ => ?_⟩
                    unfold upd
                    dsimp only
                    by_cases e : i = v
                    · subst e; rw [if_pos rfl, if_pos (by omega)]
                    · rw [if_neg e]
                      by_cases h : i < v
                      · rw [if_pos h, if_pos (by omega)]
                      · rw [if_neg h, if_neg (by omega)]
                · obtain rfl : v = rows.length := by omega
                  go_wp2
                  go_meet
                  case rel => exact hM.congr fun i hi => by rw [if_pos hi]
            case rest =>
              clear H6
              go_upto_block 18 with (at_make; refine wpList_mk _ rfl _ _ 25 rfl 3 i3 _ Try.underlying25 h3 h3z h3s rfl .i64 .i64 _ _ 0 rows.length rfl rfl rfl rfl (Nat.zero_le _) (by rw [h3b]; omega) (by unfold maxLen; omega) ?_; intro w9 z9 r9 g9; have Z9 : Hid (w9.heap.size = wc.heap.size + 1) := z9; clear z9)
              have H7 := WM.start hcut HC r9 g9
              have hCW : CO < wc.heap.size := hcut.z
              clear hcut r9 g9 Z9 HB hNST hOB hON
              generalize wc.heap.size = WK at *
              have hstb : ∀ i, i ≤ rows.length → st (pre (gOf rows) rows.length 0) i ≤ 1048576 := fun i hi => Nat.le_trans (st_le _ hdt hi) htot
              have hstT : ∀ i, i ≤ rows.length → st (pre (gOf rows) rows.length 0) i ≤ TT := fun i hi => by rw [← HTT.out]; exact st_mono _ hi
              go_wp2
              go_loopg [28, 29, 30] rows.length (fun gk s28 s29 s30 wr => P7out rows w O ST PR FI CO WK TT order pred gk s28 s29 s30 wr)
              case atStart =>
                have h3' := K3.start (gOf rows) rows.length order
                rw [HORD.out.2.2.1] at h3'
                exact ⟨rows.length, _, 0, [], rfl, Nat.le_refl _, rfl, rfl, rfl, h3', H7⟩
              case round =>
                clear H7
                obtain ⟨i, comp, k, work, hgk, hi, rfl, rfl, rfl, hK, hM⟩ := hrel
                cases i with
                | zero =>
                  as_aux_lemma =>
                  rw [show (((0 : Nat) : Int) - 1) = -1 from rfl]
                  go_wp2
                  go_ret2
                  refine ⟨⟨CO, comp, k, hK.res HORD.out.1, hK.k_le, ?_, rfl, hM.c.c⟩, hM.c.below⟩
                  have h1 := HC.k.a; have h2 := HC.k.b; have h3 := HC.k.c; have h4 := HC.k.d; have h5 := HC.c
                  omega
                | succ i =>
                  rw [show (((i + 1 : Nat) : Int) - 1) = (i : Int) by omega]
                  obtain ⟨r, hr⟩ : ∃ r, order[i]? = some r := ⟨_, List.getElem?_eq_getElem (by rw [HORD.out.2.2.1]; omega)⟩
                  have hrn : r < rows.length := (HORD.out.1 r).2 (List.mem_iff_getElem?.2 ⟨i, hr⟩)
                  have cOi := hM.c.cellO hr
                  have HR : Hid (order[i]? = some r) := hr
                  clear hr
                  have cCr := hM.c.c.cell hrn
                  have zCr := hM.c.c.frozen r
                  have hkle := hK.k_le
                  by_cases hc : 0 ≤ comp r
                  · as_aux_lemma =>
                    go_wp2
                    go_roundg i
                    case measure => omega
                    case rel => exact ⟨i, comp, k, work, rfl, by omega, rfl, rfl, rfl, hK.skip HR.out hc, hM⟩
                  · have hcn : comp r < 0 := by omega
                    have HA := (hM.setC HC hCW r (k : Int)).clear
                    obtain ⟨hw1, f1, hr1, hf1⟩ := HA.s
                    have rW := hr1.alloc (.cells #[.int .i64 (r : Int)] 3)
                    go_wp2_with (at_builtin; refine wpList_push _ rfl _ _ 25 rfl 3 i3 Try.underlying25 h3 h3s WK 0 rows.length f1 rfl rW ⟨wr.heap.size, 0, none⟩ 1 (.int .i64 (r : Int)) rfl (cell_new _ _ _ _ (by simp)) rfl (by omega) ?_; intro w2 z2 r2 g2; have Z2 : Hid (w2.heap.size = _) := z2; clear z2)
                    have HM2 := (HA.push HC hCW (by simp; omega) g2 r2 hf1).congr (compOf_one comp k r)
                    have hKi := K3in.start hK HORD.out.1 HR.out hcn
                    clear HA rW r2 g2 hr1 hf1 hM cOi cCr zCr Z2
                    obtain ⟨wo, rfl⟩ : ∃ wo : World, wo = wr := ⟨_, rfl⟩
                    go_loopg [29] (2 * (rows.length - [r].length) + [r].length) (fun gk s29 wr => P7in rows w O ST PR FI CO WK TT order pred i r comp k gk s29 wr)
                    case atStart => exact ⟨[r], [r], rfl, hKi, rfl, HM2⟩
                    case round =>
                      clear HM2 hKi
                      obtain ⟨seen, work1, hgk1, hKi, rfl, hM⟩ := hrel
                      cases work1 with
                      | nil =>
                        as_aux_lemma =>
                        simp only [List.length_nil]
                        go_wp2
                        go_roundg i
                        case measure => omega
                        case rel => exact ⟨i, compOf comp k seen, k + 1, [], rfl, by omega, rfl, by simp, rfl, K3in.finish hK HORD.out.1 HORD.out.2.1 HORD.out.2.2.2 (fun u hu => gOf_none hu) HR.out hcn hKi, hM⟩
                      | cons v W =>
                        simp only [List.length_cons]
                        obtain ⟨cT, zT, hWl⟩ := hM.s.top
                        have hvn : v < rows.length := hKi.lt v (hKi.wsub v (by simp))
                        have cS0 := hM.c.cellST (i := v) (by omega)
                        have hb0 := hstb v (by omega)
                        have hMp := hM.pop
                        have hKm := hKi.pop
                        clear hM
                        go_wp2
                        clear cT zT cS0
                        obtain ⟨wo2, rfl⟩ : ∃ wo2 : World, wo2 = wr := ⟨_, rfl⟩
                        go_loopg [29, 33] (st (pre (gOf rows) rows.length 0) (v + 1) - st (pre (gOf rows) rows.length 0) v) (fun gk s29 s33 wr => P7pred rows w O ST PR FI CO WK TT order pred i r comp k v (2 * (rows.length - seen.length) + W.length) gk s29 s33 wr)
                        case atStart => exact ⟨_, seen, W, rfl, Nat.le_refl _, st_mono _ (by omega), rfl, rfl, hKm.mono (fun u hu => absurd hu looked_none), Nat.le_refl _, hMp⟩
                        case round =>
                          clear hMp hKm
                          obtain ⟨j, seen1, work2, hgk2, hj0, hj1, rfl, rfl, hKm, hG, hM⟩ := hrel
                          have cS1 := hM.c.cellST (i := v + 1) (by omega)
                          have hb1 := hstb (v + 1) (by omega)
                          have hsl := len_below seen1 rows.length hKm.nd hKm.lt
                          have hwl := hKm.wlen
                          by_cases hjl : j < st (pre (gOf rows) rows.length 0) (v + 1)
                          · have hjT : j < TT := Nat.lt_of_lt_of_le hjl (hstT (v + 1) (by omega))
                            have cP := hM.c.cellPR hjT
                            have hed := HF.out.at hj0 hjl
                            rw [pre_mem] at hed
                            obtain ⟨u, hu⟩ : ∃ u, pred j = u := ⟨_, rfl⟩
                            rw [hu] at cP hed
                            have HU : Hid (pred j = u) := hu
                            clear hu
                            obtain ⟨hun, heu⟩ := hed
                            have cCu := hM.c.c.cell hun
                            have zCu := hM.c.c.frozen u
                            have HLS : Hid (∀ y, Looked (pre (gOf rows) rows.length 0) pred v (j + 1) y → Looked (pre (gOf rows) rows.length 0) pred v j y ∨ y = u) := fun y hy => by
                              rcases looked_step hy with h | h
                              · exact .inl h
                              · exact .inr (by rw [h, HU.out])
                            by_cases hcu : compOf comp k seen1 u < 0
                            · as_aux_lemma =>
                              have HA := hM.setC HC hCW u (k : Int)
                              obtain ⟨hw1, f1, hr1, hf1⟩ := HA.s
                              have rW := hr1.alloc (.cells #[.int .i64 (u : Int)] 3)
                              have hsl2 : seen1.length + 1 ≤ rows.length := by
                                have h1 := hKm.push hK HORD.out.1 hun heu hcu
                                have h2 := len_below _ rows.length h1.nd h1.lt
                                simpa using h2
                              have HKP : Hid (K3mid (gOf rows) rows.length order i r comp k (u :: seen1) (u :: work2) v (Looked (pre (gOf rows) rows.length 0) pred v (j + 1))) := (hKm.push hK HORD.out.1 hun heu hcu).mono HLS.out
                              go_wp2_with (at_builtin; refine wpList_push _ rfl _ _ 25 rfl 3 i3 Try.underlying25 h3 h3s WK work2.length rows.length f1 rfl rW ⟨wr.heap.size, 0, none⟩ 1 (.int .i64 (u : Int)) rfl (cell_new _ _ _ _ (by simp)) rfl (by omega) ?_; intro w2 z2 r2 g2; have Z2 : Hid (w2.heap.size = _) := z2; clear z2)
                              have HM2 := (HA.push HC hCW (by omega) g2 r2 hf1).congr (compOf_cons comp k u seen1)
                              go_roundg (st (pre (gOf rows) rows.length 0) (v + 1) - (j + 1))
                              case measure => omega
                              case rel => exact ⟨j + 1, u :: seen1, u :: work2, rfl, by omega, by omega, by go_num, rfl, HKP.out, by simp; omega, HM2⟩
                            · as_aux_lemma =>
                              go_wp2
                              go_roundg (st (pre (gOf rows) rows.length 0) (v + 1) - (j + 1))
                              case measure => omega
                              case rel => exact ⟨j + 1, seen1, work2, rfl, by omega, by omega, by go_num, rfl, (hKm.skip (u := u) (by omega)).mono HLS.out, hG, hM⟩
                          · as_aux_lemma =>
                            obtain rfl : j = st (pre (gOf rows) rows.length 0) (v + 1) := by omega
                            have hKd := hKm.done (fun u hu hv => by
                              obtain ⟨j', h1, h2, h3⟩ := HF.out.has (pre_mem.2 ⟨hu, hv⟩)
                              exact ⟨j', h1, h2, h3⟩)
                            have HKD : Hid (K3in (gOf rows) rows.length order i r comp k seen1 work2) := hKd
                            clear hKd hKm
                            go_wp2
                            go_roundg (2 * (rows.length - seen1.length) + work2.length)
                            case measure => simp only [List.length_cons] at *; omega
                            case rel => exact ⟨seen1, work2, rfl, HKD.out, rfl, hM⟩
end Go.Proofs.Qxb6602302a

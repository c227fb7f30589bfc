import Derived.Test.Qxb6601814aStrs
import Derived.Lib.AppendStr
import Derived.Laws.IdiomStrings
import Derived.Deep.DeepMust
namespace Go.Proofs.Qxb6601814a
open Go.RowKit
set_option linter.unusedVariables false

/-- What stands ahead of phrase i of n. -/
def sepL (n i : Nat) : List UInt8 := if i = 0 then [] else if i + 1 = n then [32, 97, 110, 100, 32] else [44, 32]

/-- The sentence after k phrases. -/
def smTo (xs : List ByteArray) : Nat → List UInt8
  | 0 => []
  | k + 1 => smTo xs k ++ sepL xs.length k ++ (xs.getD k ⟨#[]⟩).data.toList

theorem sepL_len (n i : Nat) : (sepL n i).length ≤ 5 := by
  unfold sepL
  split
  · simp
  · split <;> simp

theorem smTo_len (xs : List ByteArray) (k : Nat) (hk : k ≤ xs.length) : (smTo xs k).length ≤ total (xs.take k) + 5 * k := by
  induction k with
  | zero => simp [smTo]
  | succ k ih =>
    have h1 := ih (by omega)
    have h2 := sepL_len xs.length k
    rw [total_snoc xs k (by omega)]
    have h3 : xs.getD k ⟨#[]⟩ = xs[k]'(by omega) := by simp [List.getD, List.getElem?_eq_getElem (show k < xs.length by omega)]
    have h4 := Lib.size_eq (xs[k]'(by omega))
    simp only [smTo, List.length_append, h3]
    omega

theorem total_take_le (xs : List ByteArray) (k : Nat) : total (xs.take k) ≤ total xs := by
  have := List.take_append_drop k xs
  conv => rhs; rw [← this]
  unfold total
  rw [List.map_append, List.sum_append]
  omega

def cellsOf (l : List UInt8) : List Value := l.map fun b => Value.int .u8 b.toNat

theorem cellsOf_append (a b : List UInt8) : cellsOf (a ++ b) = cellsOf a ++ cellsOf b := by simp [cellsOf]
theorem cellsOf_len (a : List UInt8) : (cellsOf a).length = a.length := by simp [cellsOf]

theorem Try.info5 : (Try.prog.info? 5).map (fun i => (i.zero, i.size, i.bytes)) = some (some (.int .u8 0), 1, 1) := by kernel_rfl

/-- 'string(b)' of a slice of bytes that the call owns. -/
theorem conv_own {w : World} {base : Nat} {v : Value} {l : List UInt8} (h : w.ownsRow base 5 1 v l.length (cellsOf l)) : (convert 35 9 v).run Try.prog w = .ok (.string ⟨l.toArray⟩) w := by
  rcases h.2 with ⟨rfl, h0⟩ | ⟨g, cap, cur, rfl, hb, hg, hnc, hcm, hcs, htake⟩
  · have : l = [] := List.eq_nil_of_length_eq_zero h0
    subst this
    rw [run_convert_bytes_string w 35 9 5 none 0 0 Try.underlying35 Try.underlying5 Try.underlying9]
    rfl
  · refine run_convert_bytes_back w 35 9 5 ⟨g, 0, none⟩ cap l Try.underlying35 Try.underlying5 Try.underlying9 (fun j hj => ?_)
    have h1 := h.cellAt j (by omega)
    rw [show (⟨g, 0, none⟩ : Addr).add j = ⟨g, j, none⟩ from by unfold Addr.add; split <;> simp_all]
    rw [h1]
    simp [cellsOf, List.getElem?_eq_getElem hj]

theorem own_base {w : World} {base : Nat} {v : Value} {n : Nat} {xs : List Value} (h : w.ownsRow base 5 1 v n xs) : ∀ k, v.ownBlock = some k → base ≤ k := fun k hk => (h.lt k hk).1

theorem own_to {w : World} {base : Nat} {v : Value} {l m : List UInt8} {s : ByteArray} (h : w.ownsRow base 5 1 v (l.length + s.size) (cellsOf l ++ Lib.strCells s)) (e : m = l ++ s.data.toList) : w.ownsRow base 5 1 v m.length (cellsOf m) := by
  subst e
  rw [List.length_append, ← Lib.size_eq, cellsOf_append]
  exact h

theorem own_to2 {w : World} {base : Nat} {v : Value} {l m : List UInt8} {r s : ByteArray} (h : w.ownsRow base 5 1 v (l.length + r.size + s.size) (cellsOf l ++ Lib.strCells r ++ Lib.strCells s)) (e : m = l ++ r.data.toList ++ s.data.toList) : w.ownsRow base 5 1 v m.length (cellsOf m) := by
  subst e
  rw [List.length_append, List.length_append, ← Lib.size_eq, ← Lib.size_eq, cellsOf_append, cellsOf_append]
  exact h

set_option maxHeartbeats 1000000 in
theorem modelNil (w : World) :
    Calls Try.prog 12 #[.slice none 0 0] w fun e w' => e = .returned (.string ⟨#[]⟩) ∧ w' = w := by
  have hcv := conv_own (l := []) (World.ownsRow_nil w 0 5 1)
  go_enter Try.func12, Try.ntmps12
  go_wp2
  refine wp_loop_rounds 1 ?_
  rw [rounds_succ]
  go_wp2
  go_ret
  exact ⟨rfl, rfl⟩

set_option maxHeartbeats 1000000 in
theorem model (b off cap : Nat) (xs : List ByteArray) (w : World) (hl : xs.length + total xs ≤ 1048576) (he : StrsAt w b off xs) :
    Calls Try.prog 12 #[.slice (some ⟨b, off, none⟩) xs.length cap] w fun e w' => e = .returned (.string ⟨(smTo xs xs.length).toArray⟩) ∧ Below w.heap.size w w' := by
  obtain ⟨i0, hi, hz0, hz1, hz2⟩ := info_parts Try.info5
  go_enter Try.func12, Try.ntmps12
  go_wp2
  go_loopw [4, 5] (fun v i wr => ∃ k : Nat, k ≤ xs.length ∧ i = .int .i64 k ∧ wr.ownsRow w.heap.size 5 1 v (smTo xs k).length (cellsOf (smTo xs k)) ∧ Below w.heap.size w wr) (fun _ i _ => xs.length - (intOf i).toNat)
  case atStart => exact ⟨0, Nat.zero_le _, rfl, World.ownsRow_nil _ _ _ _, Below.refl _ _⟩
  case round =>
    obtain ⟨k, hk, rfl, hown, hbel⟩ := hrel
    have hlen := smTo_len xs k hk
    have htk := total_take_le xs k
    by_cases hlt : k < xs.length
    · have d0 := he k _ (List.getElem?_eq_getElem hlt)
      have hb : b < w.heap.size := lt_of_cell d0
      have c0 := (hbel.cell (p := ⟨b, off + k, none⟩) hb).trans d0
      have D0 : Hid (w.cell? ⟨b, off + k, none⟩ = some (.string (xs[k]'hlt))) := d0
      clear d0
      have hsz : (xs[k]'hlt).size ≤ 1048576 := by
        have := total_snoc xs k hlt
        have := total_take_le xs (k + 1)
        omega
      have hx : xs.getD k ⟨#[]⟩ = xs[k]'hlt := by simp [List.getD, List.getElem?_eq_getElem hlt]
      have s5 : (⟨#[32, 97, 110, 100, 32]⟩ : ByteArray).size = 5 := rfl
      have s2 : (⟨#[44, 32]⟩ : ByteArray).size = 2 := rfl
      by_cases h0 : k = 0
      · have e0 : sepL xs.length k = [] := by unfold sepL; rw [if_pos h0]
        have HX : Hid (smTo xs (k + 1) = smTo xs k ++ (xs[k]'hlt).data.toList) := by show smTo xs k ++ sepL xs.length k ++ _ = _; rw [e0, hx, List.append_nil]
        have hk0 : ¬ (0 : Int) < (k : Int) := by omega
        clear e0 hx h0
        go_wp2_with (at_builtin; refine Lib.wpList_append_own_string _ rfl _ _ 35 9 rfl w.heap.size 5 i0 Try.underlying35 Try.underlying9 hi hz0 hz1 hz2 _ _ _ rfl hown _ rfl (by unfold maxLen; omega) (by omega) hbel.size ?_; intro v2 w2 hown2 hgr2 _)
        go_roundw
        case rel => exact ⟨k + 1, by omega, by go_num, own_to hown2 HX.out, hbel.grown hgr2 hbel.size (own_base hown)⟩
        case measure => simp [intOf]; omega
      · have hpos : 0 < k := by omega
        by_cases hn : k + 1 = xs.length
        · have hbq : ((k : Int) == (xs.length : Int) - 1) = true := by rw [beq_iff_eq]; omega
          have e0 : sepL xs.length k = (⟨#[32, 97, 110, 100, 32]⟩ : ByteArray).data.toList := by unfold sepL; rw [if_neg h0, if_pos hn]
          have HX : Hid (smTo xs (k + 1) = smTo xs k ++ (⟨#[32, 97, 110, 100, 32]⟩ : ByteArray).data.toList ++ (xs[k]'hlt).data.toList) := by show smTo xs k ++ sepL xs.length k ++ _ = _; rw [e0, hx]
          clear e0 hx
          have tok1 : True := trivial
          go_wp2_with (first | (at_builtin; have _t := tok1; refine Lib.wpList_append_own_string _ rfl _ _ 35 9 rfl w.heap.size 5 i0 Try.underlying35 Try.underlying9 hi hz0 hz1 hz2 _ _ _ rfl hown _ rfl (by unfold maxLen; omega) (by omega) hbel.size ?_; intro v1 w1 hown1 hgr1 _; clear tok1; have hbel1 := hbel.grown hgr1 hbel.size (own_base hown); have c1 := (hbel1.cell (p := ⟨b, off + k, none⟩) hb).trans D0.out) | (at_builtin; refine Lib.wpList_append_own_string _ rfl _ _ 35 9 rfl w.heap.size 5 i0 Try.underlying35 Try.underlying9 hi hz0 hz1 hz2 _ _ _ rfl hown1 _ rfl (by unfold maxLen; omega) (by omega) hbel1.size ?_; intro v2 w2 hown2 hgr2 _))
          go_roundw
          case rel => exact ⟨k + 1, by omega, by go_num, own_to2 hown2 HX.out, hbel1.grown hgr2 hbel1.size (own_base hown1)⟩
          case measure => simp [intOf]; omega
        · have hbq : ((k : Int) == (xs.length : Int) - 1) = false := by rw [beq_eq_false_iff_ne]; omega
          have e0 : sepL xs.length k = (⟨#[44, 32]⟩ : ByteArray).data.toList := by unfold sepL; rw [if_neg h0, if_neg hn]
          have HX : Hid (smTo xs (k + 1) = smTo xs k ++ (⟨#[44, 32]⟩ : ByteArray).data.toList ++ (xs[k]'hlt).data.toList) := by show smTo xs k ++ sepL xs.length k ++ _ = _; rw [e0, hx]
          clear e0 hx
          have tok1 : True := trivial
          go_wp2_with (first | (at_builtin; have _t := tok1; refine Lib.wpList_append_own_string _ rfl _ _ 35 9 rfl w.heap.size 5 i0 Try.underlying35 Try.underlying9 hi hz0 hz1 hz2 _ _ _ rfl hown _ rfl (by unfold maxLen; omega) (by omega) hbel.size ?_; intro v1 w1 hown1 hgr1 _; clear tok1; have hbel1 := hbel.grown hgr1 hbel.size (own_base hown); have c1 := (hbel1.cell (p := ⟨b, off + k, none⟩) hb).trans D0.out) | (at_builtin; refine Lib.wpList_append_own_string _ rfl _ _ 35 9 rfl w.heap.size 5 i0 Try.underlying35 Try.underlying9 hi hz0 hz1 hz2 _ _ _ rfl hown1 _ rfl (by unfold maxLen; omega) (by omega) hbel1.size ?_; intro v2 w2 hown2 hgr2 _))
          go_roundw
          case rel => exact ⟨k + 1, by omega, by go_num, own_to2 hown2 HX.out, hbel1.grown hgr2 hbel1.size (own_base hown1)⟩
          case measure => simp [intOf]; omega
    · obtain rfl : k = xs.length := by omega
      have hcv := conv_own hown
      go_wp2
      go_ret
      exact ⟨rfl, hbel⟩
end Go.Proofs.Qxb6601814a

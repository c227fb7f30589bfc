import Derived.Test.Qxb6602266aPlain2
import Derived.Test.Qxb6602266aModel
import Derived.Lib.ConvBytes
namespace Go.Proofs.Qxb6602266a
open Go.RowKit Go.PlainAid
set_option linter.unusedVariables false

def widV (l : ByteArray) : Value := .agg #[.int .i64 (wid l 0 l.size), .int .i64 (wid l 1 l.size), .int .i64 (wid l 2 l.size)]

set_option maxHeartbeats 1000000 in
theorem groupWidths (l : ByteArray) (w : World) (hl : l.size ≤ 65536) (hsafe : Safe l) : Calls Try.prog 10 #[.string l] w fun e w' => e = .returned (widV l) ∧ Below w.heap.size w w' := by
  have hbl := get_bt l
  go_enter Try.func10, Try.ntmps10
  go_wp2
  go_loopw [4, 5] (fun c i wr => ∃ k : Nat, k ≤ l.size ∧ i = .int .i64 k ∧ c = .int .i64 (sepN l k) ∧ wr.rowIs w.heap.size 24 3 (fun _ => .int .i64 0) ∧ wr.rowIs (w.heap.size + 1) 24 3 (fun j => .int .i64 (wid l j k)) ∧ Below w.heap.size w wr) (fun _ i _ => l.size - (intOf i).toNat)
  case atStart =>
    refine ⟨0, Nat.zero_le _, rfl, rfl, (row0 w).alloc _, ?_, ((Below.refl _ _).alloc (Nat.le_refl _) _).alloc (by simp) _⟩
    have := row0 (w.alloc (.cells #[.int .i64 0, .int .i64 0, .int .i64 0] 24))
    simpa [wid] using this
  case round =>
    obtain ⟨k, hk, rfl, rfl, hrow, hrow1, hbel⟩ := hrel
    have hsl := sepN_le l k
    by_cases hlt : k < l.size
    · by_cases h48 : bt l k = 48
      · have hq : (bt l k != 48) = false := by simp [h48]
        have hg := hsafe k hlt h48
        have HS : Hid (sepN l (k + 1) = sepN l k) := sepN_zero h48
        have H48 : Hid (bt l k = 48) := h48
        clear h48
        have a0 := hrow1.cell (i := sepN l k) (by omega)
        have f0 := hrow1.frozen (sepN l k)
        have hw := wid_le l (sepN l k) k
        go_wp2
        go_roundw
        case rel => exact ⟨k + 1, by omega, by go_num, by rw [HS.out], hrow.setOther (by simp) _, (hrow1.set _ _).congr (fun j _ => by
            by_cases e : j = sepN l k
            · subst e; rw [if_pos rfl, wid_hit H48.out rfl]; go_num
            · rw [if_neg e, wid_miss (fun hh => e hh.2.symm)]), hbel.setCell (by simp) _⟩
        case measure => simp [intOf]; omega
      · have hq : (bt l k != 48) = true := by simp [h48]
        have HS : Hid (sepN l (k + 1) = sepN l k + 1) := sepN_sep h48
        go_wp2
        go_roundw
        case rel => exact ⟨k + 1, by omega, by go_num, by rw [HS.out]; go_num, hrow, hrow1.congr (fun j _ => by rw [wid_miss (fun hh => h48 hh.1)]), hbel⟩
        case measure => simp [intOf]; omega
    · obtain rfl : l.size = k := by omega
      have a0 := hrow1.cell (i := 0) (by omega)
      have a1 := hrow1.cell (i := 1) (by omega)
      have a2 := hrow1.cell (i := 2) (by omega)
      have b0 := hrow.cell (i := 0) (by omega)
      have b1 := hrow.cell (i := 1) (by omega)
      have b2 := hrow.cell (i := 2) (by omega)
      have f0 := hrow.frozen 0
      have f1 := hrow.frozen 1
      have f2 := hrow.frozen 2
      go_wp2
      obtain ⟨q0, q1, q2⟩ := three_set hrow (.int .i64 (wid l 0 l.size)) (.int .i64 (wid l 1 l.size)) (.int .i64 (wid l 2 l.size))
      exact bodyPost_ret (v := widV l) (by simp [results, Try.results10, go_sem, q0, q1, q2, widV]) rfl ⟨rfl, three_below hbel _ _ _⟩

theorem pow_le (a b : Nat) (h : a ≤ b) : 10 ^ a ≤ 10 ^ b := Nat.pow_le_pow_right (by omega) h

set_option maxHeartbeats 1000000 in
theorem digitCount (x c : Nat) (h : IsDc x c) (hx : x ≤ 9223372036854775807) (hc : c ≤ 19) (w : World) : Calls Try.prog 11 #[.int .i64 x] w fun e w' => e = .returned (.int .i64 c) ∧ w' = w := by
  go_enter Try.func11, Try.ntmps11
  go_wp2
  go_loop [0, 3] (fun y k => ∃ m : Nat, m ≤ c ∧ k = .int .i64 m ∧ y = .int .i64 ((x / 10 ^ m : Nat) : Int)) (fun _ k => c - (intOf k).toNat)
  case atStart => exact ⟨0, Nat.zero_le _, rfl, by simp⟩
  case round =>
    obtain ⟨m, hm, rfl, rfl⟩ := hrel
    by_cases hlt : m < c
    · have h1 : 0 < x / 10 ^ m := Nat.div_pos (h.least m hlt) (Nat.pow_pos (by omega))
      have h2 : x / 10 ^ m ≤ x := Nat.div_le_self _ _
      have HS : Hid (x / 10 ^ (m + 1) = x / 10 ^ m / 10) := by
        show _ = _
        rw [Nat.pow_succ, Nat.div_div_eq_div_mul]
      generalize x / 10 ^ m = y at *
      go_wp2
      go_round
      case rel => exact ⟨m + 1, by omega, by go_num, by rw [HS.out]; go_num⟩
      case measure => simp [intOf]; omega
    · obtain rfl : c = m := by omega
      have h0 : x / 10 ^ c = 0 := Nat.div_eq_of_lt h.lt
      rw [h0]
      go_wp2
      go_ret
      exact ⟨rfl, rfl⟩

/-! ### a row of bytes -/
/-- Block B holds bytes; the first n are f, and may be written. -/
def ByteRow (w : World) (B n : Nat) (f : Nat → Value) : Prop :=
  ∃ c lo hi, w.heap[B]? = some (.cells c 5 (lo, hi)) ∧ n ≤ c.size ∧ n ≤ lo ∧ ∀ i, i < n → c[i]? = some (f i)

theorem ByteRow.cell {w : World} {B n : Nat} {f : Nat → Value} (h : ByteRow w B n f) {i : Nat} (hi : i < n) : w.cell? ⟨B, i, none⟩ = some (f i) := by
  obtain ⟨c, lo, hi', hb, _, _, hc⟩ := h
  simp [World.cell?, hb, hc i hi]
theorem ByteRow.frozen {w : World} {B n : Nat} {f : Nat → Value} (h : ByteRow w B n f) {i : Nat} (hi : i < n) : w.frozen? ⟨B, i, none⟩ = false := by
  obtain ⟨c, lo, hi', hb, _, hlo, hc⟩ := h
  simp [World.frozen?, hb]
  omega
theorem ByteRow.lt {w : World} {B n : Nat} {f : Nat → Value} (h : ByteRow w B n f) : B < w.heap.size := by
  obtain ⟨c, lo, hi', hb, _⟩ := h
  exact (Array.getElem?_eq_some_iff.1 hb).1
theorem ByteRow.of_block {w w' : World} {B n : Nat} {f : Nat → Value} (h : ByteRow w B n f) (e : w'.heap[B]? = w.heap[B]?) : ByteRow w' B n f := by
  obtain ⟨c, lo, hi', hb, r⟩ := h
  exact ⟨c, lo, hi', e.trans hb, r⟩
theorem ByteRow.setOther {w : World} {B n : Nat} {f : Nat → Value} (h : ByteRow w B n f) {a : Addr} (ha : B ≠ a.block) (v : Value) : ByteRow (w.setCell a v) B n f :=
  h.of_block (Deep.blk_setCell_other _ _ _ _ ha)
theorem ByteRow.alloc {w : World} {B n : Nat} {f : Nat → Value} (h : ByteRow w B n f) (o : Obj) : ByteRow (w.alloc o) B n f := h.of_block (Deep.blk_alloc_lt _ _ _ h.lt)
theorem ByteRow.congr {w : World} {B n : Nat} {f g : Nat → Value} (h : ByteRow w B n f) (e : ∀ i, i < n → f i = g i) : ByteRow w B n g := by
  obtain ⟨c, lo, hi', hb, h1, h2, hc⟩ := h
  exact ⟨c, lo, hi', hb, h1, h2, fun i hi => by rw [hc i hi, e i hi]⟩
theorem ByteRow.set {w : World} {B n : Nat} {f : Nat → Value} (h : ByteRow w B n f) (i : Nat) (v : Value) : ByteRow (w.setCell ⟨B, i, none⟩ v) B n (fun j => if j = i then v else f j) := by
  obtain ⟨c, lo, hi', hb, h1, h2, hc⟩ := h
  refine ⟨c.setIfInBounds i v, lo, hi', ?_, by simpa using h1, h2, fun j hj => ?_⟩
  · simp [World.setCell, Array.getElem?_modify, hb]
  · rw [Array.getElem?_setIfInBounds]
    by_cases e : j = i
    · subst e
      have : j < c.size := by omega
      simp [this]
    · rw [if_neg (fun h => e h.symm)]
      show c[j]? = some (if j = i then v else f j)
      rw [if_neg e]
      exact hc j hj

theorem conv_bytes (l : ByteArray) (W : World) : ∃ W' cap, (convert 9 30 (.string l)).run Try.prog W = .ok (.slice (some ⟨W.heap.size, 0, none⟩) l.size cap) W' ∧ ByteRow W' W.heap.size l.size (fun k => .int .u8 (bt l k)) ∧ Below W.heap.size W W' := by
  refine ⟨_, _, Lib.run_convert_string_bytes W 9 30 5 l Try.underlying9 Try.underlying30 Try.underlying5, ?_, ?_⟩
  · refine ⟨_, _, _, Lib.bytesWorld_at_new W 5 l, ?_, ?_, fun i hi => ?_⟩
    · show l.size ≤ (Lib.bytesCells W 5 l).size
      simp [Lib.bytesCells]
    · show l.size ≤ (Lib.bytesCells W 5 l).size
      simp [Lib.bytesCells]
    · have hd : i < l.data.size := hi
      show _ = some (Value.int .u8 (bt l i))
      rw [← get_bt l i hi]
      simp [Lib.bytesCells, Array.getElem?_append, hi]
      rfl
  · refine ⟨rfl, rfl, rfl, by rw [Lib.bytesWorld_size]; omega, fun k hk => Lib.bytesWorld_at_old W 5 l k hk⟩

theorem conv_back (l : ByteArray) (x : Nat → Nat) {W : World} {B cap : Nat} (h : ByteRow W B l.size (fun k => .int .u8 (wr8 l x k))) : (convert 30 9 (.slice (some ⟨B, 0, none⟩) l.size cap)).run Try.prog W = .ok (.string ⟨(written l x).toArray⟩) W := by
  have := run_convert_bytes_back (P := Try.prog) W 30 9 5 ⟨B, 0, none⟩ cap (written l x) Try.underlying30 Try.underlying5 Try.underlying9 (fun j hj => by
    rw [written_len] at hj
    rw [show (⟨B, 0, none⟩ : Addr).add j = ⟨B, j, none⟩ from by unfold Addr.add; split <;> simp_all]
    rw [h.cell hj, written_at l x j hj])
  rw [written_len] at this
  exact this
end Go.Proofs.Qxb6602266a

import Derived.Test.Qxb6602266aModel
import Derived.ChangeKeysEq
import Derived.Laws.StructEq
namespace Go.Proofs.Qxb6602266a
open Go.RowKit Go.PlainAid
set_option linter.unusedVariables false

theorem Try.info3 : (Try.prog.info? 3).map (fun i => (i.zero, i.size, i.bytes)) = some (some (.int .i64 0), 1, 8) := by kernel_rfl
theorem Try.cells3 : Try.prog.cellsOf 3 = 1 := by kernel_rfl
theorem Try.eql24 (a b c : Int) (w : World) : (binOp .eql 24 (.agg #[.int .i64 a, .int .i64 b, .int .i64 c]) (.agg #[.int .i64 a, .int .i64 b, .int .i64 c])).run Try.prog w = .ok (.bool true) w := by
  obtain ⟨i0, hi, hz0, hz1, hz2⟩ := info_parts Try.info3
  rw [run_eql_struct, run_equalIn_array w 9999 _ _ Try.underlying24 hi, Try.cells3]
  simp [Op.eqItems, List.range_succ, go_sem, part]

set_option maxHeartbeats 1000000 in
theorem main3 (s l : ByteArray) (w : World) (hs : s.size ≤ maxLen) (hl : l.size ≤ maxLen) :
    Calls Try.prog 3 #[.string s, .string l] w fun e w' => e = .returned (.bool true) ∧ Below w.heap.size w w' := by
  have heql := Try.eql24
  go_enter Try.func3, Try.ntmps3
  go_wp2_with fail
  refine (zzb5 s l _).mono ?_
  rintro e w0 ⟨⟨x, rfl⟩, rfl⟩
  cases x with
  | false =>
    go_wp2_with fail
    go_ret
    exact ⟨rfl, Below.refl _ _⟩
  | true =>
    by_cases h1 : 65536 < s.size
    · go_wp2_with fail
      go_ret
      exact ⟨rfl, Below.refl _ _⟩
    by_cases h2 : 65536 < l.size
    · go_wp2_with fail
      go_ret
      exact ⟨rfl, Below.refl _ _⟩
    go_wp2_with fail
    refine (layoutSafe l _ (by omega)).mono ?_
    rintro e w1 ⟨⟨x, rfl, hx⟩, rfl⟩
    cases x with
    | false =>
      go_wp2_with fail
      go_ret
      exact ⟨rfl, Below.refl _ _⟩
    | true =>
      have hsafe := hx rfl
      clear hx
      by_cases heq : s.size = l.size
      · have HE : Hid (s.size = l.size) := heq
        clear heq
        go_wp2_with fail
        refine (zzReadEq s l _ (by omega) HE.out hsafe).mono ?_
        rintro e w2 ⟨⟨p, hp, rfl⟩, hb2⟩
        unfold aggV
        go_wp2_with fail
        refine (modelEq s l _ (by omega) HE.out hsafe).mono ?_
        rintro e w3 ⟨⟨q, hq, rfl⟩, hb3⟩
        obtain rfl := hp.one hq
        unfold aggV
        have z0 := hb3.cell (p := ⟨w2.heap.size, 0, none⟩) (by simp)
        have z1 := hb3.cell (p := ⟨w2.heap.size, 1, none⟩) (by simp)
        have z2 := hb3.cell (p := ⟨w2.heap.size, 2, none⟩) (by simp)
        have hz := hb3.size
        simp at z0 z1 z2 hz
        have hlt : w2.heap.size < w3.heap.size := by omega
        go_wp2
        go_ret
        have s2 := hb2.size
        exact ⟨rfl, (((hb2.alloc s2 _).trans (hb3.mono (by simp; omega))).alloc (by omega) _)⟩
      · go_wp2_with fail
        refine (zzReadNe s l _ heq).mono ?_
        rintro e w2 ⟨rfl, hb2⟩
        unfold zeroRet
        go_wp2_with fail
        refine (modelNe s l _ heq).mono ?_
        rintro e w3 ⟨rfl, hb3⟩
        unfold zeroRet
        have z0 := hb3.cell (p := ⟨w2.heap.size, 0, none⟩) (by simp)
        have z1 := hb3.cell (p := ⟨w2.heap.size, 1, none⟩) (by simp)
        have z2 := hb3.cell (p := ⟨w2.heap.size, 2, none⟩) (by simp)
        have hz := hb3.size
        simp at z0 z1 z2 hz
        have hlt : w2.heap.size < w3.heap.size := by omega
        go_wp2
        go_ret
        have s2 := hb2.size
        exact ⟨rfl, (((hb2.alloc s2 _).trans (hb3.mono (by simp; omega))).alloc (by omega) _)⟩
end Go.Proofs.Qxb6602266a

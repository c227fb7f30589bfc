/-
  ZZLowestOnCycle.
-/
import Derived.Test.Qxb6602302aLeaf
import Derived.Test.Qxb6602302aTarW
namespace Go.Proofs.Qxb6602302a
open Go.RowKit
set_option linter.unusedVariables false
set_option linter.unusedSimpArgs false

set_option maxHeartbeats 2000000 in
theorem zzLow (ta sa : Option Addr) (tc sc : Nat) (xs : List ByteArray) (rows : List (List Int)) (w : World) (hx : xs.length = rows.length) (hn : rows.length ≤ 65536) (hd : InDom rows) (hlen : ∀ v, (gOf rows v).length ≤ 1048576) (ht : StrsOf w ta xs) (hs : RowsOf w sa rows) :
    Calls Try.prog 10 #[.slice ta rows.length tc, .slice sa rows.length sc] w fun e w' => TarRet rows w e w' ∧ Below w.heap.size w w' := by
  rw [← hx] at hn
  have HX : Hid (xs.length = rows.length) := hx
  rw [← hx]
  clear hx
  go_enter Try.func10, Try.ntmps10
  go_wp2_with fail
  refine (txnsW ta tc xs w hn ht).mono ?_
  rintro e w1 ⟨⟨ao, c, rfl, _⟩, hb1⟩
  go_wp2_with fail
  have hb2 : Below w.heap.size w (w1.alloc (.cells #[.pointer none, .slice ao xs.length c, .slice none 0 0, .slice sa xs.length sc] 51)) := hb1.alloc hb1.size _
  rw [HX.out] at hn hb2 ⊢
  refine (tarW w1.heap.size ao sa c sc rows _ hn hd hlen (by simp) (by simp) (hs.below hb2)).mono ?_
  rintro e w2 ⟨⟨C, lo, comp, c1, hres, hC, rfl, hrow⟩, hb3⟩
  have hb4 := hb2.trans (hb3.mono hb2.size)
  go_wp2
  go_ret2
  exact ⟨⟨C, lo, comp, c1, hres, Nat.le_trans hb2.size hC, rfl, hrow⟩, hb4⟩
end Go.Proofs.Qxb6602302a

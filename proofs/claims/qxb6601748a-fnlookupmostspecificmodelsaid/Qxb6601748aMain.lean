import Derived.Test.Qxb6601748aMap
import Derived.Test.Qxb6601748aLook
import Derived.Test.Qxb6601748aModel
namespace Go.Proofs.Qxb6601748a
open Go.RowKit Go.Maps
set_option linter.unusedVariables false

theorem looks_some {w : World} {B n : Nat} {K U Q : Nat → ByteArray} {D : DataW Unit} (hown : w.ownsMap Try.prog 9 credElem B n D) (hD : MapIs D n K U Q) : Looks w (some B) n K U Q := by
  intro W hW s hs
  have hown' : W.ownsMap Try.prog 9 credElem B n D := by
    have hlt := hown.lt
    obtain ⟨es, clock, hb, r⟩ := hown
    exact ⟨es, clock, (hW.block B hlt).trans hb, r⟩
  obtain ⟨v, ps, hrun, hv⟩ := hown'.look_ok law9 Try.underlying45 (zero29 W) (credElem_mk _ _) (key9 hs)
  obtain ⟨u, p, rfl, hz⟩ := credElem_inv hv
  exact ⟨u, p, _, hrun, hD.found _ hz⟩

theorem looks_none (w : World) (K U Q : Nat → ByteArray) : Looks w none 0 K U Q := by
  intro W hW s hs
  have hrun := Maps.look_nil (w := W) true law9 Try.underlying45 (zero29 W) (key9 hs)
  exact ⟨_, _, _, hrun, ⟨fun _ => ⟨rfl, rfl, fun i h => absurd h (by omega)⟩, fun e => by cases e⟩⟩

theorem entsOf_below {w w' : World} {ao : Option Addr} {len : Nat} {K U Q : Nat → ByteArray} (h : EntsOf w ao len K U Q) (hb : Below w.heap.size w w') : EntsOf w' ao len K U Q := by
  rcases h with h | ⟨b, off, rfl, h⟩
  · exact .inl h
  · refine .inr ⟨b, off, rfl, fun i hi => ?_⟩
    obtain ⟨c0, c1, c2⟩ := h i hi
    have hlt : b < w.heap.size := lt_of_cell c0
    exact ⟨(hb.cell (p := ⟨b, _, none⟩) hlt).trans c0, (hb.cell (p := ⟨b, _, none⟩) hlt).trans c1, (hb.cell (p := ⟨b, _, none⟩) hlt).trans c2⟩

theorem entsAt_below {w w' : World} {b off len : Nat} {K U Q : Nat → ByteArray} (h : EntsAt w b off len K U Q) (hb : Below w.heap.size w w') : EntsAt w' b off len K U Q := by
  intro i hi
  obtain ⟨c0, c1, c2⟩ := h i hi
  have hlt : b < w.heap.size := lt_of_cell c0
  exact ⟨(hb.cell (p := ⟨b, _, none⟩) hlt).trans c0, (hb.cell (p := ⟨b, _, none⟩) hlt).trans c1, (hb.cell (p := ⟨b, _, none⟩) hlt).trans c2⟩

theorem full_eq (host name : ByteArray) : (host ++ (⟨#[47]⟩ : ByteArray) ++ name).data.toList = full host name := by simp [full]

theorem full_size (host name : ByteArray) : (host ++ (⟨#[47]⟩ : ByteArray) ++ name).size = host.size + name.size + 1 := by
  rw [Lib.size_eq, full_eq]
  simp [full]
  omega

set_option maxHeartbeats 1000000 in
theorem mainNil (nf : Bool) (host name : ByteArray) (w : World) (hh : host.size ≤ maxLen) (hn : name.size ≤ maxLen) :
    Calls Try.prog 3 #[.slice none 0 0, .bool nf, .string host, .string name] w fun e w' => e = .returned (.bool true) ∧ Below w.heap.size w w' := by
  have he : EntsOf w none 0 (fun _ => ⟨#[]⟩) (fun _ => ⟨#[]⟩) (fun _ => ⟨#[]⟩) := .inl rfl
  go_enter Try.func3, Try.ntmps3
  go_wp2_with fail
  refine (zzb none 0 0 _ _ _ nf host name _ (by omega) he).mono ?_
  rintro e w0 ⟨⟨x, rfl⟩, rfl⟩
  cases x with
  | false =>
    go_wp2_with fail
    go_ret
    exact ⟨rfl, Below.refl _ _⟩
  | true =>
    by_cases h1 : 1048576 < host.size
    · have d1 : decide ((1048576 : Int) < (host.size : Int)) = true := by simp; omega
      go_wp2_with fail
      go_ret
      exact ⟨rfl, Below.refl _ _⟩
    by_cases h2 : 1048576 < name.size
    · have d1 : decide ((1048576 : Int) < (host.size : Int)) = false := by simp; omega
      have d2 : decide ((1048576 : Int) < (name.size : Int)) = true := by simp; omega
      go_wp2_with fail
      go_ret
      exact ⟨rfl, Below.refl _ _⟩
    have d1 : decide ((1048576 : Int) < (host.size : Int)) = false := by simp; omega
    have d2 : decide ((1048576 : Int) < (name.size : Int)) = false := by simp; omega
    go_wp2_with fail
    refine (authB none 0 0 _ _ _ _ (by omega) he).mono ?_
    rintro e w1 ⟨⟨x, rfl⟩, hb1⟩
    go_wp2_with fail
    · go_ret
      exact ⟨rfl, hb1⟩
    refine (copyNil _).mono ?_
    rintro e w2 ⟨rfl, rfl⟩
    cases nf with
    | true =>
      go_wp2_with fail
      refine (zzLookNil host name _).mono ?_
      rintro e w3 ⟨rfl, hb3⟩
      go_wp2_with (first | (go_at_call 13; refine (credUser _ _ _).mono ?_; rintro e w' ⟨rfl, rfl⟩) | (go_at_call 14; refine (credPass _ _ _).mono ?_; rintro e w' ⟨rfl, rfl⟩))
      go_ret
      exact ⟨rfl, (((hb1.trans (hb3.mono hb1.size)).alloc (Nat.le_trans hb1.size hb3.size) _).alloc (by have := hb1.size; have := hb3.size; simp; omega) _).alloc (by have := hb1.size; have := hb3.size; simp; omega) _⟩
    | false =>
      go_wp2_with fail
      refine (buildNil _).mono ?_
      rintro e w3 ⟨rfl, rfl⟩
      go_wp2_with fail
      refine (zzLook none w2.heap.size host name _ 0 (fun _ => ⟨#[]⟩) (fun _ => ⟨#[]⟩) (fun _ => ⟨#[]⟩) (by omega) (by omega) (by simp) (looks_none _ _ _ _)).mono ?_
      rintro e w3 ⟨⟨u, p, ok, rfl, hbest⟩, hb3⟩
      go_wp2_with fail
      refine (modelNil _ _ (fun _ => ⟨#[]⟩) (fun _ => ⟨#[]⟩) (fun _ => ⟨#[]⟩)).mono ?_
      rintro e w4 ⟨⟨u', p', ok', rfl, hbest'⟩, hb4⟩
      rw [full_eq] at hbest'
      obtain ⟨e1, e2, e3⟩ := hbest'.one hbest
      rw [e1, e2, e3]
      clear e1 e2 e3 hbest'
      have z0 := hb4.cell (p := ⟨w3.heap.size, 0, none⟩) (by simp)
      have z1 := hb4.cell (p := ⟨w3.heap.size, 1, none⟩) (by simp)
      simp at z0 z1
      have s3 := hb3.size
      have s4 := hb4.size
      simp at s3 s4
      have hz : w3.heap.size < w4.heap.size := by omega
      go_wp2_with (first | (go_at_call 13; refine (credUser _ _ _).mono ?_; rintro e w' ⟨rfl, rfl⟩) | (go_at_call 14; refine (credPass _ _ _).mono ?_; rintro e w' ⟨rfl, rfl⟩))
      go_ret
      refine ⟨rfl, ?_⟩
      have s1 := hb1.size
      exact ((((((hb1.alloc s1 _).trans (hb3.mono (by simp; omega))).alloc (by omega) _).trans (hb4.mono (by simp; omega))).alloc (by omega) _).alloc (by simp; omega) _)

set_option maxHeartbeats 2000000 in
theorem mainSome (a : Addr) (len cap : Nat) (K U Q : Nat → ByteArray) (nf : Bool) (host name : ByteArray) (w : World) (hl : len ≤ 9223372036854775807) (he : EntsOf w (some a) len K U Q) (hK : ∀ i, (K i).size ≤ maxLen) (hh : host.size ≤ maxLen) (hn : name.size ≤ maxLen) :
    Calls Try.prog 3 #[.slice (some a) len cap, .bool nf, .string host, .string name] w fun e w' => e = .returned (.bool true) ∧ Below w.heap.size w w' := by
  go_enter Try.func3, Try.ntmps3
  go_wp2_with fail
  refine (zzb (some a) len cap _ _ _ nf host name _ hl he).mono ?_
  rintro e w0 ⟨⟨x, rfl⟩, rfl⟩
  cases x with
  | false =>
    go_wp2_with fail
    go_ret
    exact ⟨rfl, Below.refl _ _⟩
  | true =>
    by_cases h0 : 65536 < len
    · have d0 : decide ((65536 : Int) < (len : Int)) = true := by simp; omega
      go_wp2_with fail
      go_ret
      exact ⟨rfl, Below.refl _ _⟩
    have d0 : decide ((65536 : Int) < (len : Int)) = false := by simp; omega
    by_cases h1 : 1048576 < host.size
    · have d1 : decide ((1048576 : Int) < (host.size : Int)) = true := by simp; omega
      go_wp2_with fail
      go_ret
      exact ⟨rfl, Below.refl _ _⟩
    by_cases h2 : 1048576 < name.size
    · have d1 : decide ((1048576 : Int) < (host.size : Int)) = false := by simp; omega
      have d2 : decide ((1048576 : Int) < (name.size : Int)) = true := by simp; omega
      go_wp2_with fail
      go_ret
      exact ⟨rfl, Below.refl _ _⟩
    have d1 : decide ((1048576 : Int) < (host.size : Int)) = false := by simp; omega
    have d2 : decide ((1048576 : Int) < (name.size : Int)) = false := by simp; omega
    go_wp2_with fail
    refine (authB (some a) len cap _ _ _ _ hl he).mono ?_
    rintro e w1 ⟨⟨x, rfl⟩, hb1⟩
    go_wp2_with fail
    · go_ret
      exact ⟨rfl, hb1⟩
    refine (copyEnts a len cap K U Q _ (by omega) (entsOf_below he hb1)).mono ?_
    rintro e w2 ⟨rfl, he2, hb2⟩
    have s1 := hb1.size
    have s2 := hb2.size
    have hb02 := hb1.trans (hb2.mono s1)
    cases nf with
    | true =>
      go_wp2_with fail
      refine (zzLookNil host name _).mono ?_
      rintro e w3 ⟨rfl, hb3⟩
      go_wp2_with (first | (go_at_call 13; refine (credUser _ _ _).mono ?_; rintro e w' ⟨rfl, rfl⟩) | (go_at_call 14; refine (credPass _ _ _).mono ?_; rintro e w' ⟨rfl, rfl⟩))
      go_ret
      have s3 := hb3.size
      exact ⟨rfl, (((hb02.trans (hb3.mono hb02.size)).alloc (Nat.le_trans hb02.size hb3.size) _).alloc (by simp; omega) _).alloc (by simp; omega) _⟩
    | false =>
      go_wp2_with fail
      refine (buildSome w1.heap.size len K U Q _ (by omega) he2 hK).mono ?_
      rintro e w3 ⟨pb, rfl, hpc, ⟨D, hown, hD⟩, hb3⟩
      go_wp2_with fail
      refine (zzLook (some w2.heap.size) pb host name _ len K U Q (by omega) (by omega) hpc (looks_some hown hD)).mono ?_
      rintro e w4 ⟨⟨u, p, ok, rfl, hbest⟩, hb4⟩
      have he4 := entsAt_below (entsAt_below he2 hb3) hb4
      have he5 := entsAt_below he4 ((Below.refl _ _).alloc (Nat.le_refl _) (.cells #[.string u, .string p] 29))
      have s3 := hb3.size
      have s4 := hb4.size
      have HB : Hid (Below w0.heap.size w0 w4) := (hb02.trans (hb3.mono hb02.size)).trans (hb4.mono (by omega))
      clear hb1 hb2 hb02 hb3 hb4 he2 he4 hown hD hpc he
      go_wp2_with fail
      refine (modelSome w1.heap.size len K U Q _ _ (by omega) he5 hK (by rw [full_size]; unfold maxLen; omega)).mono ?_
      rintro e w5 ⟨⟨u', p', ok', rfl, hbest'⟩, hb5⟩
      rw [full_eq] at hbest'
      obtain ⟨e1, e2, e3⟩ := hbest'.one hbest
      rw [e1, e2, e3]
      clear e1 e2 e3 hbest'
      have z0 := hb5.cell (p := ⟨w4.heap.size, 0, none⟩) (by simp)
      have z1 := hb5.cell (p := ⟨w4.heap.size, 1, none⟩) (by simp)
      simp at z0 z1
      have s5 := hb5.size
      simp at s5
      have hz : w4.heap.size < w5.heap.size := by omega
      go_wp2_with (first | (go_at_call 13; refine (credUser _ _ _).mono ?_; rintro e w' ⟨rfl, rfl⟩) | (go_at_call 14; refine (credPass _ _ _).mono ?_; rintro e w' ⟨rfl, rfl⟩))
      go_ret
      refine ⟨rfl, ?_⟩
      exact ((((HB.out.alloc (by omega) _).trans (hb5.mono (by simp; omega))).alloc (by omega) _).alloc (by simp; omega) _)
end Go.Proofs.Qxb6601748a

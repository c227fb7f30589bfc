import Derived.Test.Qxb6601748aPlain
namespace Go.Proofs.Qxb6601748a
open Go.RowKit Go.Maps Go.ChangeMaps
set_option linter.unusedVariables false

/-- What a look-up in the map mv answers, in whatever world that has the old blocks. -/
def Looks (w : World) (mv : Option Nat) (n : Nat) (K U Q : Nat → ByteArray) : Prop :=
  ∀ W, Below w.heap.size w W → ∀ s : ByteArray, s.size ≤ maxLen → ∃ u p ok, (Instr.lookup 45 (.map mv) (.string s) true).run Try.prog W = .ok (.tuple #[.agg #[.string u, .string p], .bool ok]) W ∧ Found n K U Q s.data.toList u p ok

theorem last_lt {s : ByteArray} {c : UInt8} {r : Int} (h : LastAt s.data.toList c r) : r < s.size := by
  by_cases h0 : 0 ≤ r
  · obtain ⟨hlt, _⟩ := h.some h0
    rw [← Lib.size_eq] at hlt
    omega
  · omega

theorem two_set {wr : World} {B : Nat} {x y : Value} (a b : Value) (o : Obj) (hB : B < wr.heap.size) (z0 : wr.cell? ⟨B, 0, none⟩ = some x) (z1 : wr.cell? ⟨B, 1, none⟩ = some y) :
    (((wr.setCell ⟨B, 0, none⟩ a).setCell ⟨B, 1, none⟩ b).alloc o).cell? ⟨B, 0, none⟩ = some a ∧ (((wr.setCell ⟨B, 0, none⟩ a).setCell ⟨B, 1, none⟩ b).alloc o).cell? ⟨B, 1, none⟩ = some b := by
  constructor
  · rw [World.cell?_alloc_lt _ _ _ (by simpa using hB), World.cell?_setCell_other _ _ _ _ (by simp), World.cell?_setCell_same _ _ _ z0]
  · rw [World.cell?_alloc_lt _ _ _ (by simpa using hB)]
    refine World.cell?_setCell_same _ _ _ (u := y) ?_
    rw [World.cell?_setCell_other _ _ _ _ (by simp)]; exact z1

theorem two_set' {wr : World} {B : Nat} {x y : Value} (a b : Value) (z0 : wr.cell? ⟨B, 0, none⟩ = some x) (z1 : wr.cell? ⟨B, 1, none⟩ = some y) :
    ((wr.setCell ⟨B, 0, none⟩ a).setCell ⟨B, 1, none⟩ b).cell? ⟨B, 0, none⟩ = some a ∧ ((wr.setCell ⟨B, 0, none⟩ a).setCell ⟨B, 1, none⟩ b).cell? ⟨B, 1, none⟩ = some b := by
  constructor
  · rw [World.cell?_setCell_other _ _ _ _ (by simp), World.cell?_setCell_same _ _ _ z0]
  · refine World.cell?_setCell_same _ _ _ (u := y) ?_
    rw [World.cell?_setCell_other _ _ _ _ (by simp)]; exact z1

def strOf : Value → Nat | .string s => s.size | _ => 0

def full (host name : ByteArray) : List UInt8 := host.data.toList ++ 47 :: name.data.toList

def LookRet (n : Nat) (K U Q : Nat → ByteArray) (l : List UInt8) (e : Ending) : Prop := ∃ u p ok, e = .returned (.tuple #[.agg #[.string u, .string p], .bool ok]) ∧ Best n K U Q l u p ok

set_option maxHeartbeats 1000000 in
theorem lookNil (host name : ByteArray) (w : World) :
    Calls Try.prog 23 #[.pointer none, .string host, .string name] w fun e w' => e = .returned (.tuple #[.agg #[.string ⟨#[]⟩, .string ⟨#[]⟩], .bool false]) ∧ Below w.heap.size w w' := by
  go_enter Try.func23, Try.ntmps23
  go_wp2
  exact bodyPost_ret (v := .tuple #[.agg #[.string ⟨#[]⟩, .string ⟨#[]⟩], .bool false]) (by simp [results, Try.results23, go_sem]) rfl ⟨rfl, (Below.refl _ _).alloc (Nat.le_refl _) _⟩

set_option maxHeartbeats 1000000 in
theorem lookSome (mv : Option Nat) (pb : Nat) (host name : ByteArray) (w : World) (n : Nat) (K U Q : Nat → ByteArray) (hh : host.size ≤ 1048576) (hn : name.size ≤ 1048576)
    (hcell : w.cell? ⟨pb, 0, none⟩ = some (.map mv)) (hlook : Looks w mv n K U Q) :
    Calls Try.prog 23 #[.pointer (some ⟨pb, 0, none⟩), .string host, .string name] w fun e w' => LookRet n K U Q (full host name) e ∧ Below w.heap.size w w' := by
  go_enter Try.func23, Try.ntmps23
  go_wp2
  have hfull : (host ++ (⟨#[47]⟩ : ByteArray) ++ name).data.toList = full host name := by
    simp [full]
  have HF : Hid ((host ++ (⟨#[47]⟩ : ByteArray) ++ name).data.toList = full host name) := hfull
  clear hfull
  go_loopw [8] (fun s wr => ∃ s' : ByteArray, s = .string s' ∧ s'.size ≤ 3000000 ∧ Cut n K (full host name) s'.data.toList ∧ Below w.heap.size w wr ∧ wr.heap[w.heap.size]? = some (.cells #[.string ⟨#[]⟩, .string ⟨#[]⟩] 29 (0, 0))) (fun s _ => strOf s)
  case atStart =>
    refine ⟨_, rfl, ?_, ?_, (Below.refl _ _).alloc (Nat.le_refl _) _, heap_alloc_new _ _⟩
    · rw [Lib.size_eq, HF.out]; unfold full; simp; omega
    · rw [HF.out]; exact Cut.start _ _ _
  case round =>
    obtain ⟨s, rfl, hsz, hcut, hbel, hblk⟩ := hrel
    obtain ⟨u, p, ok, hrun, hfound⟩ := hlook wr hbel s (by unfold maxLen; omega)
    have hpb := lt_of_cell hcell
    have hB : w.heap.size < wr.heap.size := lt_of_block hblk
    have hc := (hbel.cell (p := ⟨pb, 0, none⟩) hpb).trans hcell
    have z0 : wr.cell? ⟨w.heap.size, 0, none⟩ = some (.string ⟨#[]⟩) := by simp [World.cell?, hblk]
    have z1 : wr.cell? ⟨w.heap.size, 1, none⟩ = some (.string ⟨#[]⟩) := by simp [World.cell?, hblk]
    have f0 : wr.frozen? ⟨w.heap.size, 0, none⟩ = false := by simp [World.frozen?, hblk]
    have f1 : wr.frozen? ⟨w.heap.size, 1, none⟩ = false := by simp [World.frozen?, hblk]
    have HB : Hid (wr.heap[w.heap.size]? = some (.cells #[.string ⟨#[]⟩, .string ⟨#[]⟩] 29 (0, 0))) := hblk
    clear hblk
    cases ok with
    | true =>
      go_wp2
      obtain ⟨q0, q1⟩ := two_set (.string u) (.string p) (.cells #[.string u, .string p] 29) hB z0 z1
      refine bodyPost_ret (v := .tuple #[.agg #[.string u, .string p], .bool true]) (by simp [results, Try.results23, go_sem, q0, q1]) rfl ⟨⟨u, p, true, rfl, hcut.hit hfound⟩, ?_⟩
      exact ((hbel.setCell (Nat.le_refl _) _).setCell (Nat.le_refl _) _).alloc (by simp; omega) _
    | false =>
      go_wp2_with (go_at_call 27; refine (lastIdx s 47 _ (by unfold maxLen; omega)).mono ?_; rintro e w' ⟨⟨r, rfl, hr⟩, rfl⟩; have hrl := last_lt hr)
      case roundEnd =>
        obtain ⟨hlt, hnext⟩ := hcut.next hfound hr (by assumption)
        go_roundw
        case rel =>
          refine ⟨_, rfl, ?_, ?_, hbel.alloc hbel.size _, ?_⟩
          · simp; omega
          · rw [Lib.extract_data, List.drop_zero, Nat.sub_zero]; exact hnext
          · rw [Below.heap_alloc _ _ _ hB]; exact HB.out
        case measure => simp [strOf] at hlt ⊢; omega
      · obtain ⟨q0, q1⟩ := two_set (.string ⟨#[]⟩) (.string ⟨#[]⟩) (.cells #[.string u, .string p] 29) hB z0 z1
        refine bodyPost_ret (v := .tuple #[.agg #[.string ⟨#[]⟩, .string ⟨#[]⟩], .bool false]) (by simp [results, Try.results23, go_sem, q0, q1]) rfl ⟨⟨_, _, false, rfl, hcut.stop hfound hr (by assumption)⟩, ?_⟩
        exact ((hbel.setCell (Nat.le_refl _) _).setCell (Nat.le_refl _) _).alloc (by simp; omega) _

set_option maxHeartbeats 1000000 in
theorem zzLookNil (host name : ByteArray) (w : World) :
    Calls Try.prog 11 #[.pointer none, .string host, .string name] w fun e w' => e = .returned (.tuple #[.agg #[.string ⟨#[]⟩, .string ⟨#[]⟩], .bool false]) ∧ Below w.heap.size w w' := by
  go_enter Try.func11, Try.ntmps11
  go_wp2_with fail
  refine (lookNil host name _).mono ?_
  rintro e w1 ⟨rfl, hb⟩
  have z0 := hb.cell (p := ⟨w.heap.size, 0, none⟩) (by simp)
  have z1 := hb.cell (p := ⟨w.heap.size, 1, none⟩) (by simp)
  have f0 := hb.frozen (p := ⟨w.heap.size, 0, none⟩) (by simp)
  have f1 := hb.frozen (p := ⟨w.heap.size, 1, none⟩) (by simp)
  simp at z0 z1 f0 f1
  go_wp2
  obtain ⟨q0, q1⟩ := two_set' (.string ⟨#[]⟩) (.string ⟨#[]⟩) z0 z1
  refine bodyPost_ret (v := .tuple #[.agg #[.string ⟨#[]⟩, .string ⟨#[]⟩], .bool false]) (by simp [results, Try.results11, go_sem, q0, q1]) rfl ⟨rfl, ?_⟩
  exact ((((Below.refl _ _).alloc (Nat.le_refl _) _).trans (hb.mono (by simp))).setCell (Nat.le_refl _) _).setCell (Nat.le_refl _) _

set_option maxHeartbeats 1000000 in
theorem zzLook (mv : Option Nat) (pb : Nat) (host name : ByteArray) (w : World) (n : Nat) (K U Q : Nat → ByteArray) (hh : host.size ≤ 1048576) (hn : name.size ≤ 1048576)
    (hcell : w.cell? ⟨pb, 0, none⟩ = some (.map mv)) (hlook : Looks w mv n K U Q) :
    Calls Try.prog 11 #[.pointer (some ⟨pb, 0, none⟩), .string host, .string name] w fun e w' => LookRet n K U Q (full host name) e ∧ Below w.heap.size w w' := by
  go_enter Try.func11, Try.ntmps11
  go_wp2_with fail
  refine (lookSome mv pb host name _ n K U Q hh hn ?_ ?_).mono ?_
  · rw [World.cell?_alloc_lt _ _ _ (lt_of_cell hcell)]; exact hcell
  · intro W hW s hs
    exact hlook W (((Below.refl _ _).alloc (Nat.le_refl _) _).trans (hW.mono (by simp))) s hs
  rintro e w1 ⟨⟨u, p, ok, rfl, hbest⟩, hb⟩
  have z0 := hb.cell (p := ⟨w.heap.size, 0, none⟩) (by simp)
  have z1 := hb.cell (p := ⟨w.heap.size, 1, none⟩) (by simp)
  have f0 := hb.frozen (p := ⟨w.heap.size, 0, none⟩) (by simp)
  have f1 := hb.frozen (p := ⟨w.heap.size, 1, none⟩) (by simp)
  simp at z0 z1 f0 f1
  go_wp2
  obtain ⟨q0, q1⟩ := two_set' (.string u) (.string p) z0 z1
  refine bodyPost_ret (v := .tuple #[.agg #[.string u, .string p], .bool ok]) (by simp [results, Try.results11, go_sem, q0, q1]) rfl ⟨⟨u, p, ok, rfl, hbest⟩, ?_⟩
  exact ((((Below.refl _ _).alloc (Nat.le_refl _) _).trans (hb.mono (by simp))).setCell (Nat.le_refl _) _).setCell (Nat.le_refl _) _

end Go.Proofs.Qxb6601748a

/-
  What Tarjan's walk keeps in memory.
-/
import Derived.Test.Qxb6602302aMem2
namespace Go.Proofs.Qxb6602302a
open Go.RowKit
set_option linter.unusedVariables false
set_option linter.unusedSimpArgs false

structure Blk (N R L O C B : Nat) : Prop where
  a : N ≤ R
  b : R < L
  c : L < O
  d : O < C
  e : C < B

/-- What Tarjan's walk keeps in memory: the four rows, the stack. -/
structure TM (w0 : World) (R L O C B n : Nat) (w : World) (d low comp : Nat → Nat) (stack : List Nat) (s : Value) : Prop where
  r : w.rowIs R 3 n (fun i => .int .i64 (d i))
  l : w.rowIs L 3 n (fun i => .int .i64 (low i))
  o : w.rowIs O 4 n (fun i => .bool (decide (i ∈ stack)))
  c : w.rowIs C 3 n (fun i => .int .i64 (comp i))
  s : OwnS w B s stack
  b : Below w0.heap.size w0 w
  z : B ≤ w.heap.size

theorem TM.start {w w1 w2 w3 w4 : World} {n : Nat} (z1 : w1.heap.size = w.heap.size + 1) (z2 : w2.heap.size = w1.heap.size + 1) (z3 : w3.heap.size = w2.heap.size + 1) (z4 : w4.heap.size = w3.heap.size + 1)
    (r1 : w1.rowIs w.heap.size 3 n (fun _ => .int .i64 0)) (r2 : w2.rowIs w1.heap.size 3 n (fun _ => .int .i64 0)) (r3 : w3.rowIs w2.heap.size 4 n (fun _ => .bool false)) (r4 : w4.rowIs w3.heap.size 3 n (fun _ => .int .i64 0))
    (g1 : w.grownBy w1 none) (g2 : w1.grownBy w2 none) (g3 : w2.grownBy w3 none) (g4 : w3.grownBy w4 none) : TM w w.heap.size w1.heap.size w2.heap.size w3.heap.size w4.heap.size n w4 (fun _ => 0) (fun _ => 0) (fun _ => 0) [] (.slice none 0 0) where
  r := rowIs_kept (rowIs_kept (rowIs_kept r1 g2 (by simp)) g3 (by simp)) g4 (by simp)
  l := rowIs_kept (rowIs_kept r2 g3 (by simp)) g4 (by simp)
  o := by simpa using rowIs_kept r3 g4 (by simp)
  c := r4
  s := World.ownsRow_nil _ _ _ _
  b := ((((Below.refl _ w).grown g1 (Nat.le_refl _) (by simp)).grown g2 (by omega) (by simp)).grown g3 (by omega) (by simp)).grown g4 (by omega) (by simp)
  z := Nat.le_refl _

section
variable {w0 : World} {R L O C B n : Nat} {w : World} {d low comp : Nat → Nat} {stack : List Nat} {s p : Value} {path : List Tf}

theorem drew_grown (w : World) (k : Nat) (row : Option Nat) : w.heap = (w.drewN k).heap := rfl

theorem TM.drew (h : TM w0 R L O C B n w d low comp stack s) (k : Nat) : TM w0 R L O C B n (w.drewN k) d low comp stack s :=
  ⟨h.r, h.l, h.o, h.c, h.s, below_drewN h.b k, h.z⟩

theorem TM.drew1 (h : TM w0 R L O C B n w d low comp stack s) : TM w0 R L O C B n w.drew d low comp stack s :=
  ⟨h.r, h.l, h.o, h.c, h.s, h.b.drew, h.z⟩

theorem min_if (a b : Nat) : (if b < a then (b : Int) else (a : Int)) = ((min a b : Nat) : Int) := by split <;> omega

/-- A step that turns a block from B on which is not the stack's, or none. -/
theorem TM.kept {w' : World} {row : Option Nat} (h : TM w0 R L O C B n w d low comp stack s) (hB : Blk w0.heap.size R L O C B) (hg : w.grownBy w' row) (hrow : ∀ k, row = some k → B ≤ k ∧ s.ownBlock ≠ some k) : TM w0 R L O C B n w' d low comp stack s := by
  obtain ⟨ha, hb, hc, hd, he⟩ := hB
  have hne : ∀ k, k < B → some k ≠ row := fun k hk e => by have := (hrow k e.symm).1; omega
  exact ⟨rowIs_kept h.r hg (hne _ (by omega)), rowIs_kept h.l hg (hne _ (by omega)), rowIs_kept h.o hg (hne _ (by omega)), rowIs_kept h.c hg (hne _ (by omega)),
    h.s.kept hg (fun k e => (hrow k e).2), h.b.grown hg (by have := h.z; omega) (fun k e => by have := (hrow k e).1; omega), Nat.le_trans h.z hg.size⟩

theorem TM.setL (h : TM w0 R L O C B n w d low comp stack s) (hB : Blk w0.heap.size R L O C B) (k v : Nat) {x : Int} (hx : x = (v : Int)) : TM w0 R L O C B n (w.setCell ⟨L, k, none⟩ (.int .i64 x)) d (upd low k v) comp stack s := by
  subst hx
  obtain ⟨ha, hb, hc, hd, he⟩ := hB
  refine ⟨h.r.setOther (by simp; omega) _, (h.l.set k _).congr fun i hi => ?_, h.o.setOther (by simp; omega) _, h.c.setOther (by simp; omega) _, h.s.kept (grown_set _ _ _) (fun k e h' => ?_), h.b.setCell (by simp; omega) _, by simpa using h.z⟩
  · unfold upd; by_cases e : i = k <;> simp [e]
  · have := own_ge h.s k h'
    simp at e
    omega

theorem TM.setR (h : TM w0 R L O C B n w d low comp stack s) (hB : Blk w0.heap.size R L O C B) (k v : Nat) {x : Int} (hx : x = (v : Int)) : TM w0 R L O C B n (w.setCell ⟨R, k, none⟩ (.int .i64 x)) (upd d k v) low comp stack s := by
  subst hx
  obtain ⟨ha, hb, hc, hd, he⟩ := hB
  refine ⟨(h.r.set k _).congr fun i hi => ?_, h.l.setOther (by simp; omega) _, h.o.setOther (by simp; omega) _, h.c.setOther (by simp; omega) _, h.s.kept (grown_set _ _ _) (fun k e h' => ?_), h.b.setCell (by simp; omega) _, by simpa using h.z⟩
  · unfold upd; by_cases e : i = k <;> simp [e]
  · have := own_ge h.s k h'
    simp at e
    omega

/-- The stack has grown by x, and x is marked open. -/
theorem TM.push {w' : World} {x : Nat} {s' : Value} (h : TM w0 R L O C B n w d low comp stack s) (hB : Blk w0.heap.size R L O C B) (hg : w.grownBy w' s.ownBlock) (hown : OwnS w' B s' (x :: stack)) :
    TM w0 R L O C B n (w'.setCell ⟨O, x, none⟩ (.bool true)) d low comp (x :: stack) s' := by
  have hge := own_ge h.s
  obtain ⟨ha, hb, hc, hd, he⟩ := hB
  have hne : ∀ k, k < B → some k ≠ s.ownBlock := fun k hk e => by have := hge k e.symm; omega
  refine ⟨(rowIs_kept h.r hg (hne _ (by omega))).setOther (by simp; omega) _, (rowIs_kept h.l hg (hne _ (by omega))).setOther (by simp; omega) _, ((rowIs_kept h.o hg (hne _ (by omega))).set x _).congr fun i hi => ?_, (rowIs_kept h.c hg (hne _ (by omega))).setOther (by simp; omega) _,
    hown.kept (grown_set _ _ _) (fun k e h' => ?_), (h.b.grown hg (by have := h.z; omega) (fun k e => by have := hge k e; omega)).setCell (by simp; omega) _, by simpa using Nat.le_trans h.z hg.size⟩
  · by_cases e : i = x <;> simp [e]
  · have := own_ge hown k h'
    simp at e
    omega

/-- The row of the open ones, behind the stack's growth. -/
theorem TM.grow {w' : World} (h : TM w0 R L O C B n w d low comp stack s) (hB : Blk w0.heap.size R L O C B) (hg : w.grownBy w' s.ownBlock) : w'.rowIs O 4 n (fun i => .bool (decide (i ∈ stack))) := by
  have hge := own_ge h.s
  obtain ⟨ha, hb, hc, hd, he⟩ := hB
  exact rowIs_kept h.o hg (fun e => by have := hge O e.symm; omega)

/-- The top of the stack is closed: one turn of the loop that pops. -/
theorem TM.close {x c : Nat} {S : List Nat} {s' : Value} (h : TM w0 R L O C B n w d low comp (x :: S) s) (hB : Blk w0.heap.size R L O C B) (hnd : x ∉ S) (hown : OwnS w B s' S) :
    TM w0 R L O C B n ((w.setCell ⟨O, x, none⟩ (.bool false)).setCell ⟨C, x, none⟩ (.int .i64 (c : Int))) d low (upd comp x c) S s' := by
  obtain ⟨ha, hb, hc, hd, he⟩ := hB
  refine ⟨(h.r.setOther (by simp; omega) _).setOther (by simp; omega) _, (h.l.setOther (by simp; omega) _).setOther (by simp; omega) _, ((h.o.set x _).setOther (by simp; omega) _).congr fun i hi => ?_, ((h.c.setOther (by simp; omega) _).set x _).congr fun i hi => ?_,
    (hown.kept (grown_set _ _ _) (fun k e h' => ?_)).kept (grown_set _ _ _) (fun k e h' => ?_), (h.b.setCell (by simp; omega) _).setCell (by simp; omega) _, by simpa using h.z⟩
  · by_cases e : i = x
    · subst e; simp [hnd]
    · simp [e]
  · unfold upd; by_cases e : i = x <;> simp [e]
  · have := own_ge hown k h'
    simp at e
    omega
  · have := own_ge hown k h'
    simp at e
    omega

/-- The path under steps that leave its block. -/
theorem OwnP.under {x : Nat} (h : OwnP w B p path) (b : Nat) (hb : b < B) (v : Value) : OwnP (w.setCell ⟨b, x, none⟩ v) B p path :=
  h.kept (grown_set _ _ _) (fun k e h' => by have := ownP_ge h k h'; simp at e; omega)
theorem OwnS.under {x : Nat} (h : OwnS w B s stack) (b : Nat) (hb : b < B) (v : Value) : OwnS (w.setCell ⟨b, x, none⟩ v) B s stack :=
  h.kept (grown_set _ _ _) (fun k e h' => by have := own_ge h k h'; simp at e; omega)
theorem OwnS.al (h : OwnS w B s stack) (o : Obj) : OwnS (w.alloc o) B s stack := World.ownsRow.alloc h o
theorem OwnP.al (h : OwnP w B p path) (o : Obj) : OwnP (w.alloc o) B p path := World.ownsRow.alloc h o
theorem OwnP.drew1 (h : OwnP w B p path) : OwnP w.drew B p path := h
theorem OwnP.drew (h : OwnP w B p path) (k : Nat) : OwnP (w.drewN k) B p path := h

theorem OwnP.form (h : OwnP w B p path) : ∃ a cap, p = .slice a path.length cap := by
  rcases h.2 with ⟨h', h2⟩ | ⟨g', cap', cur, h', _⟩
  · exact ⟨none, 0, by rw [h', h2]⟩
  · exact ⟨_, _, h'⟩

theorem OwnP.first (w : World) (B x : Nat) (hB : B ≤ w.heap.size) : OwnP (w.alloc (.cells #[.int .i64 (x : Int), .int .i64 0] 65)) B (.slice (some ⟨w.heap.size, 0, none⟩) 1 1) [⟨x, 0⟩] := by
  have := World.ownsRow_lit (base := B) (e := 65) (size := 2) w #[.int .i64 (x : Int), .int .i64 0] 1 hB (by unfold maxLen; omega) rfl
  exact this

/-- 'append(stack, x)'. -/
theorem wpList_pushS {ops : Array Oper} {rest : List Oper} {o : Oper} {a : Act} {Q : Exit → Act → World → Prop} {i3 : TypeInfo} (h3 : Try.prog.info? 3 = some i3) (h3z : i3.zero = some (.int .i64 0)) (h3s : i3.size = 1) (h3b : i3.bytes = 8)
    (hgd : o.guard = none) (so xo : Operand) (ho : o.op = .call { callee := .builtin .append, args := #[so, xo], argTypes := #[25, 25] }) (x : Nat)
    (hown : OwnS w B s stack) (hs : a.eval so = s) (b : Nat) (hx : a.eval xo = .slice (some ⟨b, 0, none⟩) 1 1) (hb : b = w.heap.size) (h63 : stack.length ≤ 65536) (hbase : B ≤ w.heap.size)
    (h : ∀ s' w', OwnS w' B s' (x :: stack) → (w.alloc (.cells #[.int .i64 (x : Int)] 3)).grownBy w' s.ownBlock → wpList Try.prog ops Q rest (a.put o.dst s') w') : wpList Try.prog ops Q (o :: rest) a (w.alloc (.cells #[.int .i64 (x : Int)] 3)) := by
  subst hb
  refine wpList_append_own _ hgd so xo 25 ho B 3 i3 (.int .i64 0) 1 8 Try.underlying25 h3 h3z h3s h3b rfl (by decide) s stack.length (memS stack) hs (hown.al _) ⟨w.heap.size, 0, none⟩ 1 1 [.int .i64 (x : Int)] hx rfl (cell_one_new _ _ _) (by simp [Value.oneCell']) (by unfold maxLen; omega) (by omega) (by simp; omega) ?_
  intro s' w' h1 h2 _
  exact h s' w' h1 h2

/-- 'append(path, frame{x, 0})'. -/
theorem wpList_pushP {ops : Array Oper} {rest : List Oper} {o : Oper} {a : Act} {Q : Exit → Act → World → Prop} {i3 : TypeInfo} (h3 : Try.prog.info? 65 = some i3) (h3z : i3.zero = some (.agg #[.int .i64 0, .int .i64 0])) (h3s : i3.size = 2) (h3b : i3.bytes = 16)
    (hgd : o.guard = none) (so xo : Operand) (ho : o.op = .call { callee := .builtin .append, args := #[so, xo], argTypes := #[66, 66] }) (x : Nat)
    (hown : OwnP w B p path) (hs : a.eval so = p) (b : Nat) (hx : a.eval xo = .slice (some ⟨b, 0, none⟩) 1 1) (hb : b = w.heap.size) (h63 : path.length ≤ 65536) (hbase : B ≤ w.heap.size)
    (h : ∀ s' w', OwnP w' B s' (⟨x, 0⟩ :: path) → (w.alloc (.cells #[.int .i64 (x : Int), .int .i64 0] 65)).grownBy w' p.ownBlock → wpList Try.prog ops Q rest (a.put o.dst s') w') : wpList Try.prog ops Q (o :: rest) a (w.alloc (.cells #[.int .i64 (x : Int), .int .i64 0] 65)) := by
  subst hb
  refine wpList_append_own _ hgd so xo 66 ho B 65 i3 (.agg #[.int .i64 0, .int .i64 0]) 2 16 Try.underlying66 h3 h3z h3s h3b rfl (by decide) p path.length (memP path) hs (hown.al _) ⟨w.heap.size, 0, none⟩ 1 1 [.int .i64 (x : Int), .int .i64 0] hx rfl (cell_two_new _ _ _ _) (by simp [Value.oneCell']) (by unfold maxLen; omega) (by omega) (by simp; omega) ?_
  intro s' w' h1 h2 _
  exact h s' w' h1 h2
end
end Go.Proofs.Qxb6602302a

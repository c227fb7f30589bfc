/-
  No cell of these rows narrows 'for every input' (looked for: loops, veiled, ifaces, maps, wideKeys, modest, calm, conditions, laid).
  DERIVED. THE GIVEN ROWS OF THIS SEAT. 4 by the template 'for every input the law returns true; each argument reads behind the call as it read before'; 0 by the template 'total and deterministic' (their statements: Qxb6602302aTotals.lean).
  GIVEN WITH THE SEED: the statements are not yours to turn. If you find one false, say at which input.
  Laid BY PROGRAM, IN A SANDBOX (cutbox-rows.mjs): the forced cells as the released guide's own fill.sh prints them over the translation d95b7b3075522156… (all of the seat's roots in one cut). By AI agents, Wed Nov 11 2026. No macro, syntax, notation, axiom, sorry.
-/
import Derived.Test.Qxb6602302aChecked
import GoSem.Claim
import GoSem.ClaimJoined
import GoSem.ClaimMapViews
import Derived.JoinedTies
import Derived.KernelRfl
namespace Go.Proofs.Qxb6602302a
/- THE CELL 'sum', in the pinned program and in every row, IS THE sha256 OF THE DUMP (.gsa) THAT Qxb6602302aProg.lean LOADS. Nothing in Lean hashes anything: it is a label: what it is worth is what the hold of that sum in a sandbox is worth. -/
noncomputable def Try.pinned : Pinned := { name := "qxb6602302a", sum := "d95b7b30755221561107f7cd64f2f7ff4be7e1adaa0884fbe51d4ac8dad4718d", checked := Try.checked }
namespace Rows
def none {H : Type} : Left H := { results := [], args := [] }

/-- 'zzlaws_root_b1.FnLowestOnCycleMatchesKosaraju': WHATEVER THE INPUT: true; the input reads as it did. -/
def fnLowestOnCycleMatchesKosarajuSpec : ChangeSpec := { name := "fnLowestOnCycleMatchesKosaraju", fn := fun _ => fun
  | [d1, d2] => { results := [.lit (.bool true)], args := [d1, d2] }
  | _ => none }
def fnLowestOnCycleMatchesKosarajuRow : OpenClaim := { program := "qxb6602302a", sum := "d95b7b30755221561107f7cd64f2f7ff4be7e1adaa0884fbe51d4ac8dad4718d", func := "example.com/enallax/enallax/zzlaws_root_b1.FnLowestOnCycleMatchesKosaraju", spec := "fnLowestOnCycleMatchesKosaraju", apart := false }
def FnLowestOnCycleMatchesKosarajuSaid : Prop := fnLowestOnCycleMatchesKosarajuRow.holds Try.pinned (OpenSpec.ofChange fnLowestOnCycleMatchesKosarajuSpec)

/-- ITS FALSE NEIGHBOUR: 'it returns false'. Refute it at one input. -/
def fnLowestOnCycleMatchesKosarajuWrong : ChangeSpec := { name := "fnLowestOnCycleMatchesKosaraju", fn := fun _ => fun
  | [d1, d2] => { results := [.lit (.bool false)], args := [d1, d2] }
  | _ => none }
def FnLowestOnCycleMatchesKosarajuWrongFalsely : Prop := fnLowestOnCycleMatchesKosarajuRow.holds Try.pinned (OpenSpec.ofChange fnLowestOnCycleMatchesKosarajuWrong)

/-- 'zzlaws_root_b1.FnLowestOnCycleAddedEdgeOnlyMerges': WHATEVER THE INPUT: true; the input reads as it did. -/
def fnLowestOnCycleAddedEdgeOnlyMergesSpec : ChangeSpec := { name := "fnLowestOnCycleAddedEdgeOnlyMerges", fn := fun _ => fun
  | [d1, d2, d3, d4] => { results := [.lit (.bool true)], args := [d1, d2, d3, d4] }
  | _ => none }
def fnLowestOnCycleAddedEdgeOnlyMergesRow : OpenClaim := { program := "qxb6602302a", sum := "d95b7b30755221561107f7cd64f2f7ff4be7e1adaa0884fbe51d4ac8dad4718d", func := "example.com/enallax/enallax/zzlaws_root_b1.FnLowestOnCycleAddedEdgeOnlyMerges", spec := "fnLowestOnCycleAddedEdgeOnlyMerges", apart := false }
def FnLowestOnCycleAddedEdgeOnlyMergesSaid : Prop := fnLowestOnCycleAddedEdgeOnlyMergesRow.holds Try.pinned (OpenSpec.ofChange fnLowestOnCycleAddedEdgeOnlyMergesSpec)

/-- ITS FALSE NEIGHBOUR: 'it returns false'. Refute it at one input. -/
def fnLowestOnCycleAddedEdgeOnlyMergesWrong : ChangeSpec := { name := "fnLowestOnCycleAddedEdgeOnlyMerges", fn := fun _ => fun
  | [d1, d2, d3, d4] => { results := [.lit (.bool false)], args := [d1, d2, d3, d4] }
  | _ => none }
def FnLowestOnCycleAddedEdgeOnlyMergesWrongFalsely : Prop := fnLowestOnCycleAddedEdgeOnlyMergesRow.holds Try.pinned (OpenSpec.ofChange fnLowestOnCycleAddedEdgeOnlyMergesWrong)

/-- 'zzlaws_root_b1.FnLegalBreachMatchesLockTableModel': WHATEVER THE INPUT: true; the input reads as it did. -/
def fnLegalBreachMatchesLockTableModelSpec : ChangeSpec := { name := "fnLegalBreachMatchesLockTableModel", fn := fun _ => fun
  | [d1, d2, d3, d4, d5] => { results := [.lit (.bool true)], args := [d1, d2, d3, d4, d5] }
  | _ => none }
def fnLegalBreachMatchesLockTableModelRow : OpenClaim := { program := "qxb6602302a", sum := "d95b7b30755221561107f7cd64f2f7ff4be7e1adaa0884fbe51d4ac8dad4718d", func := "example.com/enallax/enallax/zzlaws_root_b1.FnLegalBreachMatchesLockTableModel", spec := "fnLegalBreachMatchesLockTableModel", apart := false }
def FnLegalBreachMatchesLockTableModelSaid : Prop := fnLegalBreachMatchesLockTableModelRow.holds Try.pinned (OpenSpec.ofChange fnLegalBreachMatchesLockTableModelSpec)

/-- ITS FALSE NEIGHBOUR: 'it returns false'. Refute it at one input. -/
def fnLegalBreachMatchesLockTableModelWrong : ChangeSpec := { name := "fnLegalBreachMatchesLockTableModel", fn := fun _ => fun
  | [d1, d2, d3, d4, d5] => { results := [.lit (.bool false)], args := [d1, d2, d3, d4, d5] }
  | _ => none }
def FnLegalBreachMatchesLockTableModelWrongFalsely : Prop := fnLegalBreachMatchesLockTableModelRow.holds Try.pinned (OpenSpec.ofChange fnLegalBreachMatchesLockTableModelWrong)

/-- 'zzlaws_root_b1.FnLegalBreachIsFirstAndNamesARivalLock': WHATEVER THE INPUT: true; the input reads as it did. -/
def fnLegalBreachIsFirstAndNamesARivalLockSpec : ChangeSpec := { name := "fnLegalBreachIsFirstAndNamesARivalLock", fn := fun _ => fun
  | [d1, d2, d3, d4, d5, d6] => { results := [.lit (.bool true)], args := [d1, d2, d3, d4, d5, d6] }
  | _ => none }
def fnLegalBreachIsFirstAndNamesARivalLockRow : OpenClaim := { program := "qxb6602302a", sum := "d95b7b30755221561107f7cd64f2f7ff4be7e1adaa0884fbe51d4ac8dad4718d", func := "example.com/enallax/enallax/zzlaws_root_b1.FnLegalBreachIsFirstAndNamesARivalLock", spec := "fnLegalBreachIsFirstAndNamesARivalLock", apart := false }
def FnLegalBreachIsFirstAndNamesARivalLockSaid : Prop := fnLegalBreachIsFirstAndNamesARivalLockRow.holds Try.pinned (OpenSpec.ofChange fnLegalBreachIsFirstAndNamesARivalLockSpec)

/-- ITS FALSE NEIGHBOUR: 'it returns false'. Refute it at one input. -/
def fnLegalBreachIsFirstAndNamesARivalLockWrong : ChangeSpec := { name := "fnLegalBreachIsFirstAndNamesARivalLock", fn := fun _ => fun
  | [d1, d2, d3, d4, d5, d6] => { results := [.lit (.bool false)], args := [d1, d2, d3, d4, d5, d6] }
  | _ => none }
def FnLegalBreachIsFirstAndNamesARivalLockWrongFalsely : Prop := fnLegalBreachIsFirstAndNamesARivalLockRow.holds Try.pinned (OpenSpec.ofChange fnLegalBreachIsFirstAndNamesARivalLockWrong)

end Rows
end Go.Proofs.Qxb6602302a

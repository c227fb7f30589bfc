/-
  No cell of these rows narrows 'for every input' (looked for: loops, veiled, ifaces, maps, wideKeys, modest, calm, conditions, laid).
  DERIVED. THE GIVEN ROWS OF THIS SEAT. 2 by the template 'for every input the law returns true; each argument reads behind the call as it read before'; 0 by the template 'total and deterministic' (their statements: Qxb6602266aTotals.lean).
  GIVEN WITH THE SEED: the statements are not yours to turn. If you find one false, say at which input.
  Laid BY PROGRAM, IN A SANDBOX (cutbox-rows.mjs): the forced cells as the released guide's own fill.sh prints them over the translation 0b136eb2a72cdd02… (all of the seat's roots in one cut). By AI agents, Wed Nov 11 2026. No macro, syntax, notation, axiom, sorry.
-/
import Derived.Test.Qxb6602266aChecked
import GoSem.Claim
import GoSem.ClaimJoined
import GoSem.ClaimMapViews
import Derived.JoinedTies
import Derived.KernelRfl
namespace Go.Proofs.Qxb6602266a
/- THE CELL 'sum', in the pinned program and in every row, IS THE sha256 OF THE DUMP (.gsa) THAT Qxb6602266aProg.lean LOADS. Nothing in Lean hashes anything: it is a label: what it is worth is what the hold of that sum in a sandbox is worth. -/
noncomputable def Try.pinned : Pinned := { name := "qxb6602266a", sum := "0b136eb2a72cdd0246ca6d2535207c46e5e352abe1f261ea4b8a1b3f1cea1c57", checked := Try.checked }
namespace Rows
def none {H : Type} : Left H := { results := [], args := [] }

/-- 'zzlaws_folder_b1.FnReadDigitGroupsMatchesModel': WHATEVER THE INPUT: true; the input reads as it did. -/
def fnReadDigitGroupsMatchesModelSpec : ChangeSpec := { name := "fnReadDigitGroupsMatchesModel", fn := fun _ => fun
  | [d1, d2] => { results := [.lit (.bool true)], args := [d1, d2] }
  | _ => none }
def fnReadDigitGroupsMatchesModelRow : OpenClaim := { program := "qxb6602266a", sum := "0b136eb2a72cdd0246ca6d2535207c46e5e352abe1f261ea4b8a1b3f1cea1c57", func := "example.com/nightbridge/nightbridge/zzlaws_folder_b1.FnReadDigitGroupsMatchesModel", spec := "fnReadDigitGroupsMatchesModel", apart := false }
def FnReadDigitGroupsMatchesModelSaid : Prop := fnReadDigitGroupsMatchesModelRow.holds Try.pinned (OpenSpec.ofChange fnReadDigitGroupsMatchesModelSpec)

/-- ITS FALSE NEIGHBOUR: 'it returns false'. Refute it at one input. -/
def fnReadDigitGroupsMatchesModelWrong : ChangeSpec := { name := "fnReadDigitGroupsMatchesModel", fn := fun _ => fun
  | [d1, d2] => { results := [.lit (.bool false)], args := [d1, d2] }
  | _ => none }
def FnReadDigitGroupsMatchesModelWrongFalsely : Prop := fnReadDigitGroupsMatchesModelRow.holds Try.pinned (OpenSpec.ofChange fnReadDigitGroupsMatchesModelWrong)

/-- 'zzlaws_folder_b1.FnReadDigitGroupsReadsWhatIsWritten': WHATEVER THE INPUT: true; the input reads as it did. -/
def fnReadDigitGroupsReadsWhatIsWrittenSpec : ChangeSpec := { name := "fnReadDigitGroupsReadsWhatIsWritten", fn := fun _ => fun
  | [d1, d2, d3, d4] => { results := [.lit (.bool true)], args := [d1, d2, d3, d4] }
  | _ => none }
def fnReadDigitGroupsReadsWhatIsWrittenRow : OpenClaim := { program := "qxb6602266a", sum := "0b136eb2a72cdd0246ca6d2535207c46e5e352abe1f261ea4b8a1b3f1cea1c57", func := "example.com/nightbridge/nightbridge/zzlaws_folder_b1.FnReadDigitGroupsReadsWhatIsWritten", spec := "fnReadDigitGroupsReadsWhatIsWritten", apart := false }
def FnReadDigitGroupsReadsWhatIsWrittenSaid : Prop := fnReadDigitGroupsReadsWhatIsWrittenRow.holds Try.pinned (OpenSpec.ofChange fnReadDigitGroupsReadsWhatIsWrittenSpec)

/-- ITS FALSE NEIGHBOUR: 'it returns false'. Refute it at one input. -/
def fnReadDigitGroupsReadsWhatIsWrittenWrong : ChangeSpec := { name := "fnReadDigitGroupsReadsWhatIsWritten", fn := fun _ => fun
  | [d1, d2, d3, d4] => { results := [.lit (.bool false)], args := [d1, d2, d3, d4] }
  | _ => none }
def FnReadDigitGroupsReadsWhatIsWrittenWrongFalsely : Prop := fnReadDigitGroupsReadsWhatIsWrittenRow.holds Try.pinned (OpenSpec.ofChange fnReadDigitGroupsReadsWhatIsWrittenWrong)

end Rows
end Go.Proofs.Qxb6602266a

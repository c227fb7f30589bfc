/-
  No cell of these rows narrows 'for every input' (looked for: loops, veiled, ifaces, maps, wideKeys, modest, calm, conditions, laid).
  DERIVED. THE GIVEN ROWS OF THIS SEAT. 5 by the template 'for every input the law returns true; each argument reads behind the call as it read before'; 0 by the template 'total and deterministic' (their statements: Qxb6601814aTotals.lean).
  GIVEN WITH THE SEED: the statements are not yours to turn. If you find one false, say at which input.
  Laid BY PROGRAM, IN A SANDBOX (cutbox-rows.mjs): the forced cells as the released guide's own fill.sh prints them over the translation 8cadf5e078d675da… (all of the seat's roots in one cut). By AI agents, Wed Nov 11 2026. No macro, syntax, notation, axiom, sorry.
-/
import Derived.Test.Qxb6601814aChecked
import GoSem.Claim
import GoSem.ClaimJoined
import GoSem.ClaimMapViews
import Derived.JoinedTies
import Derived.KernelRfl
namespace Go.Proofs.Qxb6601814a
/- THE CELL 'sum', in the pinned program and in every row, IS THE sha256 OF THE DUMP (.gsa) THAT Qxb6601814aProg.lean LOADS. Nothing in Lean hashes anything: it is a label: what it is worth is what the hold of that sum in a sandbox is worth. -/
noncomputable def Try.pinned : Pinned := { name := "qxb6601814a", sum := "8cadf5e078d675dad72c90d4a663509f3c80cb6c81a6509d911b931a1c01bfe1", checked := Try.checked }
namespace Rows
def none {H : Type} : Left H := { results := [], args := [] }

/-- 'zzlaws_internal_plan_b1.FnAndListMatchesSentenceModel': WHATEVER THE INPUT: true; the input reads as it did. -/
def fnAndListMatchesSentenceModelSpec : ChangeSpec := { name := "fnAndListMatchesSentenceModel", fn := fun _ => fun
  | [d] => { results := [.lit (.bool true)], args := [d] }
  | _ => none }
def fnAndListMatchesSentenceModelRow : OpenClaim := { program := "qxb6601814a", sum := "8cadf5e078d675dad72c90d4a663509f3c80cb6c81a6509d911b931a1c01bfe1", func := "example.com/vestwright/vestwright/zzlaws_internal_plan_b1.FnAndListMatchesSentenceModel", spec := "fnAndListMatchesSentenceModel", inPlace := ["internal/abi.NoEscape", "internal/bytealg.MakeNoZero"], apart := false }
def FnAndListMatchesSentenceModelSaid : Prop := fnAndListMatchesSentenceModelRow.holds Try.pinned (OpenSpec.ofChange fnAndListMatchesSentenceModelSpec)

/-- ITS FALSE NEIGHBOUR: 'it returns false'. Refute it at one input. -/
def fnAndListMatchesSentenceModelWrong : ChangeSpec := { name := "fnAndListMatchesSentenceModel", fn := fun _ => fun
  | [d] => { results := [.lit (.bool false)], args := [d] }
  | _ => none }
def FnAndListMatchesSentenceModelWrongFalsely : Prop := fnAndListMatchesSentenceModelRow.holds Try.pinned (OpenSpec.ofChange fnAndListMatchesSentenceModelWrong)

/-- 'zzlaws_internal_plan_b1.FnAndListPeelsFirstPhrase': WHATEVER THE INPUT: true; the input reads as it did. -/
def fnAndListPeelsFirstPhraseSpec : ChangeSpec := { name := "fnAndListPeelsFirstPhrase", fn := fun _ => fun
  | [d] => { results := [.lit (.bool true)], args := [d] }
  | _ => none }
def fnAndListPeelsFirstPhraseRow : OpenClaim := { program := "qxb6601814a", sum := "8cadf5e078d675dad72c90d4a663509f3c80cb6c81a6509d911b931a1c01bfe1", func := "example.com/vestwright/vestwright/zzlaws_internal_plan_b1.FnAndListPeelsFirstPhrase", spec := "fnAndListPeelsFirstPhrase", inPlace := ["internal/abi.NoEscape", "internal/bytealg.MakeNoZero"], apart := false }
def FnAndListPeelsFirstPhraseSaid : Prop := fnAndListPeelsFirstPhraseRow.holds Try.pinned (OpenSpec.ofChange fnAndListPeelsFirstPhraseSpec)

/-- ITS FALSE NEIGHBOUR: 'it returns false'. Refute it at one input. -/
def fnAndListPeelsFirstPhraseWrong : ChangeSpec := { name := "fnAndListPeelsFirstPhrase", fn := fun _ => fun
  | [d] => { results := [.lit (.bool false)], args := [d] }
  | _ => none }
def FnAndListPeelsFirstPhraseWrongFalsely : Prop := fnAndListPeelsFirstPhraseRow.holds Try.pinned (OpenSpec.ofChange fnAndListPeelsFirstPhraseWrong)

/-- 'zzlaws_internal_plan_b1.FnVestedMetBeforeSoonerYearIsPlainRule': WHATEVER THE INPUT: true; the input reads as it did. -/
def fnVestedMetBeforeSoonerYearIsPlainRuleSpec : ChangeSpec := { name := "fnVestedMetBeforeSoonerYearIsPlainRule", fn := fun _ => fun
  | [d1, d2, d3, d4, d5] => { results := [.lit (.bool true)], args := [d1, d2, d3, d4, d5] }
  | _ => none }
def fnVestedMetBeforeSoonerYearIsPlainRuleRow : OpenClaim := { program := "qxb6601814a", sum := "8cadf5e078d675dad72c90d4a663509f3c80cb6c81a6509d911b931a1c01bfe1", func := "example.com/vestwright/vestwright/zzlaws_internal_plan_b1.FnVestedMetBeforeSoonerYearIsPlainRule", spec := "fnVestedMetBeforeSoonerYearIsPlainRule", apart := false }
def FnVestedMetBeforeSoonerYearIsPlainRuleSaid : Prop := fnVestedMetBeforeSoonerYearIsPlainRuleRow.holds Try.pinned (OpenSpec.ofChange fnVestedMetBeforeSoonerYearIsPlainRuleSpec)

/-- ITS FALSE NEIGHBOUR: 'it returns false'. Refute it at one input. -/
def fnVestedMetBeforeSoonerYearIsPlainRuleWrong : ChangeSpec := { name := "fnVestedMetBeforeSoonerYearIsPlainRule", fn := fun _ => fun
  | [d1, d2, d3, d4, d5] => { results := [.lit (.bool false)], args := [d1, d2, d3, d4, d5] }
  | _ => none }
def FnVestedMetBeforeSoonerYearIsPlainRuleWrongFalsely : Prop := fnVestedMetBeforeSoonerYearIsPlainRuleRow.holds Try.pinned (OpenSpec.ofChange fnVestedMetBeforeSoonerYearIsPlainRuleWrong)

/-- 'zzlaws_internal_plan_b1.FnVestedMetMoreServiceNeverUnvests': WHATEVER THE INPUT: true; the input reads as it did. -/
def fnVestedMetMoreServiceNeverUnvestsSpec : ChangeSpec := { name := "fnVestedMetMoreServiceNeverUnvests", fn := fun _ => fun
  | [d1, d2, d3, d4, d5, d6, d7] => { results := [.lit (.bool true)], args := [d1, d2, d3, d4, d5, d6, d7] }
  | _ => none }
def fnVestedMetMoreServiceNeverUnvestsRow : OpenClaim := { program := "qxb6601814a", sum := "8cadf5e078d675dad72c90d4a663509f3c80cb6c81a6509d911b931a1c01bfe1", func := "example.com/vestwright/vestwright/zzlaws_internal_plan_b1.FnVestedMetMoreServiceNeverUnvests", spec := "fnVestedMetMoreServiceNeverUnvests", apart := false }
def FnVestedMetMoreServiceNeverUnvestsSaid : Prop := fnVestedMetMoreServiceNeverUnvestsRow.holds Try.pinned (OpenSpec.ofChange fnVestedMetMoreServiceNeverUnvestsSpec)

/-- ITS FALSE NEIGHBOUR: 'it returns false'. Refute it at one input. -/
def fnVestedMetMoreServiceNeverUnvestsWrong : ChangeSpec := { name := "fnVestedMetMoreServiceNeverUnvests", fn := fun _ => fun
  | [d1, d2, d3, d4, d5, d6, d7] => { results := [.lit (.bool false)], args := [d1, d2, d3, d4, d5, d6, d7] }
  | _ => none }
def FnVestedMetMoreServiceNeverUnvestsWrongFalsely : Prop := fnVestedMetMoreServiceNeverUnvestsRow.holds Try.pinned (OpenSpec.ofChange fnVestedMetMoreServiceNeverUnvestsWrong)

/-- 'zzlaws_internal_plan_b1.FnVestedMetLaterWorkNeverUnvests': WHATEVER THE INPUT: true; the input reads as it did. -/
def fnVestedMetLaterWorkNeverUnvestsSpec : ChangeSpec := { name := "fnVestedMetLaterWorkNeverUnvests", fn := fun _ => fun
  | [d1, d2, d3, d4, d5, d6, d7] => { results := [.lit (.bool true)], args := [d1, d2, d3, d4, d5, d6, d7] }
  | _ => none }
def fnVestedMetLaterWorkNeverUnvestsRow : OpenClaim := { program := "qxb6601814a", sum := "8cadf5e078d675dad72c90d4a663509f3c80cb6c81a6509d911b931a1c01bfe1", func := "example.com/vestwright/vestwright/zzlaws_internal_plan_b1.FnVestedMetLaterWorkNeverUnvests", spec := "fnVestedMetLaterWorkNeverUnvests", apart := false }
def FnVestedMetLaterWorkNeverUnvestsSaid : Prop := fnVestedMetLaterWorkNeverUnvestsRow.holds Try.pinned (OpenSpec.ofChange fnVestedMetLaterWorkNeverUnvestsSpec)

/-- ITS FALSE NEIGHBOUR: 'it returns false'. Refute it at one input. -/
def fnVestedMetLaterWorkNeverUnvestsWrong : ChangeSpec := { name := "fnVestedMetLaterWorkNeverUnvests", fn := fun _ => fun
  | [d1, d2, d3, d4, d5, d6, d7] => { results := [.lit (.bool false)], args := [d1, d2, d3, d4, d5, d6, d7] }
  | _ => none }
def FnVestedMetLaterWorkNeverUnvestsWrongFalsely : Prop := fnVestedMetLaterWorkNeverUnvestsRow.holds Try.pinned (OpenSpec.ofChange fnVestedMetLaterWorkNeverUnvestsWrong)

end Rows
end Go.Proofs.Qxb6601814a

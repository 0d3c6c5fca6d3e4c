/-
  No cell of these rows narrows 'for every input' (looked for: loops, veiled, ifaces, maps, wideKeys, modest, calm, conditions, laid).
  DERIVED. THE GIVEN ROWS OF THIS SEAT. 10 by the template 'for every input the law returns true; each argument reads behind the call as it read before'; 0 by the template 'total and deterministic' (their statements: Qxb6001665aTotals.lean).
  GIVEN WITH THE SEED: the statements are not yours to turn. If you find one false, say at which input.
  Laid BY PROGRAM, IN A SANDBOX (cutbox-rows.mjs): the forced cells as the released guide's own fill.sh prints them over the translation d106398ed87a3a4c… (all of the seat's roots in one cut). By AI agents, Wed Nov 11 2026. No macro, syntax, notation, axiom, sorry.
-/
import Derived.Test.Qxb6001665aChecked
import GoSem.Claim
import GoSem.ClaimJoined
import GoSem.ClaimMapViews
import Derived.JoinedTies
import Derived.KernelRfl
namespace Go.Proofs.Qxb6001665a
/- THE CELL 'sum', in the pinned program and in every row, IS THE sha256 OF THE DUMP (.gsa) THAT Qxb6001665aProg.lean LOADS. Nothing in Lean hashes anything: it is a label: what it is worth is what the hold of that sum in a sandbox is worth. -/
noncomputable def Try.pinned : Pinned := { name := "qxb6001665a", sum := "d106398ed87a3a4cd431e2fb3418a945091d73cdb51d918135cc979623298cbb", checked := Try.checked }
namespace Rows
def none {H : Type} : Left H := { results := [], args := [] }

/-- 'zzlaws_redact_g1.FnBackslashesCountsAddedRun': WHATEVER THE INPUT: true; the input reads as it did. -/
def fnBackslashesCountsAddedRunSpec : ChangeSpec := { name := "fnBackslashesCountsAddedRun", fn := fun _ => fun
  | [d1, d2] => { results := [.lit (.bool true)], args := [d1, d2] }
  | _ => none }
def fnBackslashesCountsAddedRunRow : OpenClaim := { program := "qxb6001665a", sum := "d106398ed87a3a4cd431e2fb3418a945091d73cdb51d918135cc979623298cbb", func := "example.com/ferrule/ferrule/zzlaws_redact_g1.FnBackslashesCountsAddedRun", spec := "fnBackslashesCountsAddedRun", apart := false }
def FnBackslashesCountsAddedRunSaid : Prop := fnBackslashesCountsAddedRunRow.holds Try.pinned (OpenSpec.ofChange fnBackslashesCountsAddedRunSpec)

/-- ITS FALSE NEIGHBOUR: 'it returns false'. Refute it at one input. -/
def fnBackslashesCountsAddedRunWrong : ChangeSpec := { name := "fnBackslashesCountsAddedRun", fn := fun _ => fun
  | [d1, d2] => { results := [.lit (.bool false)], args := [d1, d2] }
  | _ => none }
def FnBackslashesCountsAddedRunWrongFalsely : Prop := fnBackslashesCountsAddedRunRow.holds Try.pinned (OpenSpec.ofChange fnBackslashesCountsAddedRunWrong)

/-- 'zzlaws_redact_g1.FnAddEndKeepsEachOnceInFirstOrder': WHATEVER THE INPUT: true; the input reads as it did. -/
def fnAddEndKeepsEachOnceInFirstOrderSpec : ChangeSpec := { name := "fnAddEndKeepsEachOnceInFirstOrder", fn := fun _ => fun
  | [d] => { results := [.lit (.bool true)], args := [d] }
  | _ => none }
def fnAddEndKeepsEachOnceInFirstOrderRow : OpenClaim := { program := "qxb6001665a", sum := "d106398ed87a3a4cd431e2fb3418a945091d73cdb51d918135cc979623298cbb", func := "example.com/ferrule/ferrule/zzlaws_redact_g1.FnAddEndKeepsEachOnceInFirstOrder", spec := "fnAddEndKeepsEachOnceInFirstOrder", apart := false }
def FnAddEndKeepsEachOnceInFirstOrderSaid : Prop := fnAddEndKeepsEachOnceInFirstOrderRow.holds Try.pinned (OpenSpec.ofChange fnAddEndKeepsEachOnceInFirstOrderSpec)

/-- ITS FALSE NEIGHBOUR: 'it returns false'. Refute it at one input. -/
def fnAddEndKeepsEachOnceInFirstOrderWrong : ChangeSpec := { name := "fnAddEndKeepsEachOnceInFirstOrder", fn := fun _ => fun
  | [d] => { results := [.lit (.bool false)], args := [d] }
  | _ => none }
def FnAddEndKeepsEachOnceInFirstOrderWrongFalsely : Prop := fnAddEndKeepsEachOnceInFirstOrderRow.holds Try.pinned (OpenSpec.ofChange fnAddEndKeepsEachOnceInFirstOrderWrong)

/-- 'zzlaws_redact_g1.FnLongerIsCommutativeAndAssociative': WHATEVER THE INPUT: true; the input reads as it did. -/
def fnLongerIsCommutativeAndAssociativeSpec : ChangeSpec := { name := "fnLongerIsCommutativeAndAssociative", fn := fun _ => fun
  | [d1, d2, d3, d4, d5, d6] => { results := [.lit (.bool true)], args := [d1, d2, d3, d4, d5, d6] }
  | _ => none }
def fnLongerIsCommutativeAndAssociativeRow : OpenClaim := { program := "qxb6001665a", sum := "d106398ed87a3a4cd431e2fb3418a945091d73cdb51d918135cc979623298cbb", func := "example.com/ferrule/ferrule/zzlaws_redact_g1.FnLongerIsCommutativeAndAssociative", spec := "fnLongerIsCommutativeAndAssociative", apart := false }
def FnLongerIsCommutativeAndAssociativeSaid : Prop := fnLongerIsCommutativeAndAssociativeRow.holds Try.pinned (OpenSpec.ofChange fnLongerIsCommutativeAndAssociativeSpec)

/-- ITS FALSE NEIGHBOUR: 'it returns false'. Refute it at one input. -/
def fnLongerIsCommutativeAndAssociativeWrong : ChangeSpec := { name := "fnLongerIsCommutativeAndAssociative", fn := fun _ => fun
  | [d1, d2, d3, d4, d5, d6] => { results := [.lit (.bool false)], args := [d1, d2, d3, d4, d5, d6] }
  | _ => none }
def FnLongerIsCommutativeAndAssociativeWrongFalsely : Prop := fnLongerIsCommutativeAndAssociativeRow.holds Try.pinned (OpenSpec.ofChange fnLongerIsCommutativeAndAssociativeWrong)

/-- 'zzlaws_redact_g2.FnLowerHexFoldsExactlyTheHexCasePairs': WHATEVER THE INPUT: true; the input reads as it did. -/
def fnLowerHexFoldsExactlyTheHexCasePairsSpec : ChangeSpec := { name := "fnLowerHexFoldsExactlyTheHexCasePairs", fn := fun _ => fun
  | [d1, d2] => { results := [.lit (.bool true)], args := [d1, d2] }
  | _ => none }
def fnLowerHexFoldsExactlyTheHexCasePairsRow : OpenClaim := { program := "qxb6001665a", sum := "d106398ed87a3a4cd431e2fb3418a945091d73cdb51d918135cc979623298cbb", func := "example.com/ferrule/ferrule/zzlaws_redact_g2.FnLowerHexFoldsExactlyTheHexCasePairs", spec := "fnLowerHexFoldsExactlyTheHexCasePairs", apart := false }
def FnLowerHexFoldsExactlyTheHexCasePairsSaid : Prop := fnLowerHexFoldsExactlyTheHexCasePairsRow.holds Try.pinned (OpenSpec.ofChange fnLowerHexFoldsExactlyTheHexCasePairsSpec)

/-- ITS FALSE NEIGHBOUR: 'it returns false'. Refute it at one input. -/
def fnLowerHexFoldsExactlyTheHexCasePairsWrong : ChangeSpec := { name := "fnLowerHexFoldsExactlyTheHexCasePairs", fn := fun _ => fun
  | [d1, d2] => { results := [.lit (.bool false)], args := [d1, d2] }
  | _ => none }
def FnLowerHexFoldsExactlyTheHexCasePairsWrongFalsely : Prop := fnLowerHexFoldsExactlyTheHexCasePairsRow.holds Try.pinned (OpenSpec.ofChange fnLowerHexFoldsExactlyTheHexCasePairsWrong)

/-- 'zzlaws_redact_g2.FnLowerHexIdempotentAndKeepsHexClass': WHATEVER THE INPUT: true; the input reads as it did. -/
def fnLowerHexIdempotentAndKeepsHexClassSpec : ChangeSpec := { name := "fnLowerHexIdempotentAndKeepsHexClass", fn := fun _ => fun
  | [d] => { results := [.lit (.bool true)], args := [d] }
  | _ => none }
def fnLowerHexIdempotentAndKeepsHexClassRow : OpenClaim := { program := "qxb6001665a", sum := "d106398ed87a3a4cd431e2fb3418a945091d73cdb51d918135cc979623298cbb", func := "example.com/ferrule/ferrule/zzlaws_redact_g2.FnLowerHexIdempotentAndKeepsHexClass", spec := "fnLowerHexIdempotentAndKeepsHexClass", apart := false }
def FnLowerHexIdempotentAndKeepsHexClassSaid : Prop := fnLowerHexIdempotentAndKeepsHexClassRow.holds Try.pinned (OpenSpec.ofChange fnLowerHexIdempotentAndKeepsHexClassSpec)

/-- ITS FALSE NEIGHBOUR: 'it returns false'. Refute it at one input. -/
def fnLowerHexIdempotentAndKeepsHexClassWrong : ChangeSpec := { name := "fnLowerHexIdempotentAndKeepsHexClass", fn := fun _ => fun
  | [d] => { results := [.lit (.bool false)], args := [d] }
  | _ => none }
def FnLowerHexIdempotentAndKeepsHexClassWrongFalsely : Prop := fnLowerHexIdempotentAndKeepsHexClassRow.holds Try.pinned (OpenSpec.ofChange fnLowerHexIdempotentAndKeepsHexClassWrong)

/-- 'zzlaws_redact_g2.FnSpanTakesHexEscapeInEitherCase': WHATEVER THE INPUT: true; the input reads as it did. -/
def fnSpanTakesHexEscapeInEitherCaseSpec : ChangeSpec := { name := "fnSpanTakesHexEscapeInEitherCase", fn := fun _ => fun
  | [d1, d2, d3, d4, d5, d6, d7] => { results := [.lit (.bool true)], args := [d1, d2, d3, d4, d5, d6, d7] }
  | _ => none }
def fnSpanTakesHexEscapeInEitherCaseRow : OpenClaim := { program := "qxb6001665a", sum := "d106398ed87a3a4cd431e2fb3418a945091d73cdb51d918135cc979623298cbb", func := "example.com/ferrule/ferrule/zzlaws_redact_g2.FnSpanTakesHexEscapeInEitherCase", spec := "fnSpanTakesHexEscapeInEitherCase", apart := false }
def FnSpanTakesHexEscapeInEitherCaseSaid : Prop := fnSpanTakesHexEscapeInEitherCaseRow.holds Try.pinned (OpenSpec.ofChange fnSpanTakesHexEscapeInEitherCaseSpec)

/-- ITS FALSE NEIGHBOUR: 'it returns false'. Refute it at one input. -/
def fnSpanTakesHexEscapeInEitherCaseWrong : ChangeSpec := { name := "fnSpanTakesHexEscapeInEitherCase", fn := fun _ => fun
  | [d1, d2, d3, d4, d5, d6, d7] => { results := [.lit (.bool false)], args := [d1, d2, d3, d4, d5, d6, d7] }
  | _ => none }
def FnSpanTakesHexEscapeInEitherCaseWrongFalsely : Prop := fnSpanTakesHexEscapeInEitherCaseRow.holds Try.pinned (OpenSpec.ofChange fnSpanTakesHexEscapeInEitherCaseWrong)

/-- 'zzlaws_strictjson_g1.FnNumberEndMatchesAutomaton': WHATEVER THE INPUT: true; the input reads as it did. -/
def fnNumberEndMatchesAutomatonSpec : ChangeSpec := { name := "fnNumberEndMatchesAutomaton", fn := fun _ => fun
  | [d1, d2] => { results := [.lit (.bool true)], args := [d1, d2] }
  | _ => none }
def fnNumberEndMatchesAutomatonRow : OpenClaim := { program := "qxb6001665a", sum := "d106398ed87a3a4cd431e2fb3418a945091d73cdb51d918135cc979623298cbb", func := "example.com/ferrule/ferrule/zzlaws_strictjson_g1.FnNumberEndMatchesAutomaton", spec := "fnNumberEndMatchesAutomaton", apart := false }
def FnNumberEndMatchesAutomatonSaid : Prop := fnNumberEndMatchesAutomatonRow.holds Try.pinned (OpenSpec.ofChange fnNumberEndMatchesAutomatonSpec)

/-- ITS FALSE NEIGHBOUR: 'it returns false'. Refute it at one input. -/
def fnNumberEndMatchesAutomatonWrong : ChangeSpec := { name := "fnNumberEndMatchesAutomaton", fn := fun _ => fun
  | [d1, d2] => { results := [.lit (.bool false)], args := [d1, d2] }
  | _ => none }
def FnNumberEndMatchesAutomatonWrongFalsely : Prop := fnNumberEndMatchesAutomatonRow.holds Try.pinned (OpenSpec.ofChange fnNumberEndMatchesAutomatonWrong)

/-- 'zzlaws_strictjson_g1.FnNumberEndReadsOnlyTheNumber': WHATEVER THE INPUT: true; the input reads as it did. -/
def fnNumberEndReadsOnlyTheNumberSpec : ChangeSpec := { name := "fnNumberEndReadsOnlyTheNumber", fn := fun _ => fun
  | [d1, d2] => { results := [.lit (.bool true)], args := [d1, d2] }
  | _ => none }
def fnNumberEndReadsOnlyTheNumberRow : OpenClaim := { program := "qxb6001665a", sum := "d106398ed87a3a4cd431e2fb3418a945091d73cdb51d918135cc979623298cbb", func := "example.com/ferrule/ferrule/zzlaws_strictjson_g1.FnNumberEndReadsOnlyTheNumber", spec := "fnNumberEndReadsOnlyTheNumber", apart := false }
def FnNumberEndReadsOnlyTheNumberSaid : Prop := fnNumberEndReadsOnlyTheNumberRow.holds Try.pinned (OpenSpec.ofChange fnNumberEndReadsOnlyTheNumberSpec)

/-- ITS FALSE NEIGHBOUR: 'it returns false'. Refute it at one input. -/
def fnNumberEndReadsOnlyTheNumberWrong : ChangeSpec := { name := "fnNumberEndReadsOnlyTheNumber", fn := fun _ => fun
  | [d1, d2] => { results := [.lit (.bool false)], args := [d1, d2] }
  | _ => none }
def FnNumberEndReadsOnlyTheNumberWrongFalsely : Prop := fnNumberEndReadsOnlyTheNumberRow.holds Try.pinned (OpenSpec.ofChange fnNumberEndReadsOnlyTheNumberWrong)

/-- 'zzlaws_strictjson_g1.FnValueAllowedAgreesWithContext': WHATEVER THE INPUT: true; the input reads as it did. -/
def fnValueAllowedAgreesWithContextSpec : ChangeSpec := { name := "fnValueAllowedAgreesWithContext", fn := fun _ => fun
  | [d] => { results := [.lit (.bool true)], args := [d] }
  | _ => none }
def fnValueAllowedAgreesWithContextRow : OpenClaim := { program := "qxb6001665a", sum := "d106398ed87a3a4cd431e2fb3418a945091d73cdb51d918135cc979623298cbb", func := "example.com/ferrule/ferrule/zzlaws_strictjson_g1.FnValueAllowedAgreesWithContext", spec := "fnValueAllowedAgreesWithContext", apart := false }
def FnValueAllowedAgreesWithContextSaid : Prop := fnValueAllowedAgreesWithContextRow.holds Try.pinned (OpenSpec.ofChange fnValueAllowedAgreesWithContextSpec)

/-- ITS FALSE NEIGHBOUR: 'it returns false'. Refute it at one input. -/
def fnValueAllowedAgreesWithContextWrong : ChangeSpec := { name := "fnValueAllowedAgreesWithContext", fn := fun _ => fun
  | [d] => { results := [.lit (.bool false)], args := [d] }
  | _ => none }
def FnValueAllowedAgreesWithContextWrongFalsely : Prop := fnValueAllowedAgreesWithContextRow.holds Try.pinned (OpenSpec.ofChange fnValueAllowedAgreesWithContextWrong)

/-- 'zzlaws_strictjson_g1.FnValueEndedSettles': WHATEVER THE INPUT: true; the input reads as it did. -/
def fnValueEndedSettlesSpec : ChangeSpec := { name := "fnValueEndedSettles", fn := fun _ => fun
  | [d] => { results := [.lit (.bool true)], args := [d] }
  | _ => none }
def fnValueEndedSettlesRow : OpenClaim := { program := "qxb6001665a", sum := "d106398ed87a3a4cd431e2fb3418a945091d73cdb51d918135cc979623298cbb", func := "example.com/ferrule/ferrule/zzlaws_strictjson_g1.FnValueEndedSettles", spec := "fnValueEndedSettles", apart := false }
def FnValueEndedSettlesSaid : Prop := fnValueEndedSettlesRow.holds Try.pinned (OpenSpec.ofChange fnValueEndedSettlesSpec)

/-- ITS FALSE NEIGHBOUR: 'it returns false'. Refute it at one input. -/
def fnValueEndedSettlesWrong : ChangeSpec := { name := "fnValueEndedSettles", fn := fun _ => fun
  | [d] => { results := [.lit (.bool false)], args := [d] }
  | _ => none }
def FnValueEndedSettlesWrongFalsely : Prop := fnValueEndedSettlesRow.holds Try.pinned (OpenSpec.ofChange fnValueEndedSettlesWrong)

end Rows
end Go.Proofs.Qxb6001665a

/-
  No cell of these rows narrows 'for every input' (looked for: loops, veiled, ifaces, maps, wideKeys, modest, calm, conditions, laid).
  DERIVED. THE GIVEN ROWS OF THIS SEAT. 3 by the template 'for every input the law returns true; each argument reads behind the call as it read before'; 0 by the template 'total and deterministic' (their statements: Qxb6617332aModsTotals.lean).
  GIVEN WITH THE SEED: the statements are not yours to turn. If you find one false, say at which input.
  Laid BY PROGRAM, IN A SANDBOX (cutbox-rows.mjs): the forced cells as the released guide's own fill.sh prints them over the translation 03d0fb7916cc69c9… (all of the seat's roots in one cut). By AI agents, Wed Nov 11 2026. No macro, syntax, notation, axiom, sorry.
-/
import Derived.Test.Qxb6617332aModsChecked
import GoSem.Claim
import GoSem.ClaimJoined
import GoSem.ClaimMapViews
import Derived.JoinedTies
import Derived.KernelRfl
namespace Go.Proofs.Qxb6617332aMods
/- THE CELL 'sum', in the pinned program and in every row, IS THE sha256 OF THE DUMP (.gsa) THAT Qxb6617332aModsProg.lean LOADS. Nothing in Lean hashes anything: it is a label: what it is worth is what the hold of that sum in a sandbox is worth. -/
noncomputable def Trym.pinned : Pinned := { name := "qxb6617332amods", sum := "03d0fb7916cc69c9da814a9dac8c8c64bca3fbe12d1f0f9de4badc1da24abd65", checked := Trym.checked }
namespace Rows
def none {H : Type} : Left H := { results := [], args := [] }

/-- 'zzlaws_internal_scenario_b1.FnTallyMergeFoldIsTallyOfRuns': WHATEVER THE INPUT: true; the input reads as it did. -/
def fnTallyMergeFoldIsTallyOfRunsSpec : ChangeSpec := { name := "fnTallyMergeFoldIsTallyOfRuns", fn := fun _ => fun
  | [d1, d2, d3] => { results := [.lit (.bool true)], args := [d1, d2, d3] }
  | _ => none }
def fnTallyMergeFoldIsTallyOfRunsRow : OpenClaim := { program := "qxb6617332amods", sum := "03d0fb7916cc69c9da814a9dac8c8c64bca3fbe12d1f0f9de4badc1da24abd65", func := "example.com/fusillade/fusillade/zzlaws_internal_scenario_b1.FnTallyMergeFoldIsTallyOfRuns", spec := "fnTallyMergeFoldIsTallyOfRuns", make := .lifted ["publicsums"], apart := false }
def FnTallyMergeFoldIsTallyOfRunsSaid : Prop := fnTallyMergeFoldIsTallyOfRunsRow.holds Trym.pinned (OpenSpec.ofChange fnTallyMergeFoldIsTallyOfRunsSpec)

/-- ITS FALSE NEIGHBOUR: 'it returns false'. Refute it at one input. -/
def fnTallyMergeFoldIsTallyOfRunsWrong : ChangeSpec := { name := "fnTallyMergeFoldIsTallyOfRuns", fn := fun _ => fun
  | [d1, d2, d3] => { results := [.lit (.bool false)], args := [d1, d2, d3] }
  | _ => none }
def FnTallyMergeFoldIsTallyOfRunsWrongFalsely : Prop := fnTallyMergeFoldIsTallyOfRunsRow.holds Trym.pinned (OpenSpec.ofChange fnTallyMergeFoldIsTallyOfRunsWrong)

/-- 'zzlaws_internal_scenario_b1.FnTallyMergeCommutativeAssociativeWithZero': WHATEVER THE INPUT: true; the input reads as it did. -/
def fnTallyMergeCommutativeAssociativeWithZeroSpec : ChangeSpec := { name := "fnTallyMergeCommutativeAssociativeWithZero", fn := fun _ => fun
  | [d1, d2, d3] => { results := [.lit (.bool true)], args := [d1, d2, d3] }
  | _ => none }
def fnTallyMergeCommutativeAssociativeWithZeroRow : OpenClaim := { program := "qxb6617332amods", sum := "03d0fb7916cc69c9da814a9dac8c8c64bca3fbe12d1f0f9de4badc1da24abd65", func := "example.com/fusillade/fusillade/zzlaws_internal_scenario_b1.FnTallyMergeCommutativeAssociativeWithZero", spec := "fnTallyMergeCommutativeAssociativeWithZero", make := .lifted ["publicsums"], apart := false }
def FnTallyMergeCommutativeAssociativeWithZeroSaid : Prop := fnTallyMergeCommutativeAssociativeWithZeroRow.holds Trym.pinned (OpenSpec.ofChange fnTallyMergeCommutativeAssociativeWithZeroSpec)

/-- ITS FALSE NEIGHBOUR: 'it returns false'. Refute it at one input. -/
def fnTallyMergeCommutativeAssociativeWithZeroWrong : ChangeSpec := { name := "fnTallyMergeCommutativeAssociativeWithZero", fn := fun _ => fun
  | [d1, d2, d3] => { results := [.lit (.bool false)], args := [d1, d2, d3] }
  | _ => none }
def FnTallyMergeCommutativeAssociativeWithZeroWrongFalsely : Prop := fnTallyMergeCommutativeAssociativeWithZeroRow.holds Trym.pinned (OpenSpec.ofChange fnTallyMergeCommutativeAssociativeWithZeroWrong)

/-- 'zzlaws_internal_scenario_b1.FnMeterScriptCountsDocumentedRounds': WHATEVER THE INPUT: true; the input reads as it did. -/
def fnMeterScriptCountsDocumentedRoundsSpec : ChangeSpec := { name := "fnMeterScriptCountsDocumentedRounds", fn := fun _ => fun
  | [d1, d2, d3, d4, d5, d6, d7] => { results := [.lit (.bool true)], args := [d1, d2, d3, d4, d5, d6, d7] }
  | _ => none }
def fnMeterScriptCountsDocumentedRoundsRow : OpenClaim := { program := "qxb6617332amods", sum := "03d0fb7916cc69c9da814a9dac8c8c64bca3fbe12d1f0f9de4badc1da24abd65", func := "example.com/fusillade/fusillade/zzlaws_internal_scenario_b1.FnMeterScriptCountsDocumentedRounds", spec := "fnMeterScriptCountsDocumentedRounds", make := .lifted ["publicsums"], apart := false }
def FnMeterScriptCountsDocumentedRoundsSaid : Prop := fnMeterScriptCountsDocumentedRoundsRow.holds Trym.pinned (OpenSpec.ofChange fnMeterScriptCountsDocumentedRoundsSpec)

/-- ITS FALSE NEIGHBOUR: 'it returns false'. Refute it at one input. -/
def fnMeterScriptCountsDocumentedRoundsWrong : ChangeSpec := { name := "fnMeterScriptCountsDocumentedRounds", fn := fun _ => fun
  | [d1, d2, d3, d4, d5, d6, d7] => { results := [.lit (.bool false)], args := [d1, d2, d3, d4, d5, d6, d7] }
  | _ => none }
def FnMeterScriptCountsDocumentedRoundsWrongFalsely : Prop := fnMeterScriptCountsDocumentedRoundsRow.holds Trym.pinned (OpenSpec.ofChange fnMeterScriptCountsDocumentedRoundsWrong)

end Rows
end Go.Proofs.Qxb6617332aMods

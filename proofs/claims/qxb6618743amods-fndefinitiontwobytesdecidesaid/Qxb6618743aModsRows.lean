/-
  No cell of these rows narrows 'for every input' (looked for: loops, veiled, ifaces, maps, wideKeys, modest, calm, conditions, laid).
  DERIVED. THE GIVEN ROWS OF THIS SEAT. 2 by the template 'for every input the law returns true; each argument reads behind the call as it read before'; 0 by the template 'total and deterministic' (their statements: Qxb6618743aModsTotals.lean).
  GIVEN WITH THE SEED: the statements are not yours to turn. If you find one false, say at which input.
  Laid BY PROGRAM, IN A SANDBOX (cutbox-rows.mjs): the forced cells as the released guide's own fill.sh prints them over the translation 99bc7eb110234fb8… (all of the seat's roots in one cut). By AI agents, Wed Nov 11 2026. No macro, syntax, notation, axiom, sorry.
-/
import Derived.Test.Qxb6618743aModsChecked
import GoSem.Claim
import GoSem.ClaimJoined
import GoSem.ClaimMapViews
import Derived.JoinedTies
import Derived.KernelRfl
namespace Go.Proofs.Qxb6618743aMods
/- THE CELL 'sum', in the pinned program and in every row, IS THE sha256 OF THE DUMP (.gsa) THAT Qxb6618743aModsProg.lean LOADS. Nothing in Lean hashes anything: it is a label: what it is worth is what the hold of that sum in a sandbox is worth. -/
noncomputable def Trym.pinned : Pinned := { name := "qxb6618743amods", sum := "99bc7eb110234fb86d6e6a20bccfd57a45dd359c6be11b82ec77b1e30521ced7", checked := Trym.checked }
namespace Rows
def none {H : Type} : Left H := { results := [], args := [] }

/-- 'zzlaws_syntax_b1.FnDefinitionHashAndUnderscore': WHATEVER THE INPUT: true; the input reads as it did. -/
def fnDefinitionHashAndUnderscoreSpec : ChangeSpec := { name := "fnDefinitionHashAndUnderscore", fn := fun _ => fun
  | [d1, d2, d3, d4, d5, d6] => { results := [.lit (.bool true)], args := [d1, d2, d3, d4, d5, d6] }
  | _ => none }
def fnDefinitionHashAndUnderscoreRow : OpenClaim := { program := "qxb6618743amods", sum := "99bc7eb110234fb86d6e6a20bccfd57a45dd359c6be11b82ec77b1e30521ced7", func := "example.com/shamash/shamash/zzlaws_syntax_b1.FnDefinitionHashAndUnderscore", spec := "fnDefinitionHashAndUnderscore", make := .lifted ["publicsums"], apart := false }
def FnDefinitionHashAndUnderscoreSaid : Prop := fnDefinitionHashAndUnderscoreRow.holds Trym.pinned (OpenSpec.ofChange fnDefinitionHashAndUnderscoreSpec)

/-- ITS FALSE NEIGHBOUR: 'it returns false'. Refute it at one input. -/
def fnDefinitionHashAndUnderscoreWrong : ChangeSpec := { name := "fnDefinitionHashAndUnderscore", fn := fun _ => fun
  | [d1, d2, d3, d4, d5, d6] => { results := [.lit (.bool false)], args := [d1, d2, d3, d4, d5, d6] }
  | _ => none }
def FnDefinitionHashAndUnderscoreWrongFalsely : Prop := fnDefinitionHashAndUnderscoreRow.holds Trym.pinned (OpenSpec.ofChange fnDefinitionHashAndUnderscoreWrong)

/-- 'zzlaws_syntax_b1.FnDefinitionTwoBytesDecide': WHATEVER THE INPUT: true; the input reads as it did. -/
def fnDefinitionTwoBytesDecideSpec : ChangeSpec := { name := "fnDefinitionTwoBytesDecide", fn := fun _ => fun
  | [d1, d2, d3, d4, d5, d6, d7] => { results := [.lit (.bool true)], args := [d1, d2, d3, d4, d5, d6, d7] }
  | _ => none }
def fnDefinitionTwoBytesDecideRow : OpenClaim := { program := "qxb6618743amods", sum := "99bc7eb110234fb86d6e6a20bccfd57a45dd359c6be11b82ec77b1e30521ced7", func := "example.com/shamash/shamash/zzlaws_syntax_b1.FnDefinitionTwoBytesDecide", spec := "fnDefinitionTwoBytesDecide", make := .lifted ["publicsums"], apart := false }
def FnDefinitionTwoBytesDecideSaid : Prop := fnDefinitionTwoBytesDecideRow.holds Trym.pinned (OpenSpec.ofChange fnDefinitionTwoBytesDecideSpec)

/-- ITS FALSE NEIGHBOUR: 'it returns false'. Refute it at one input. -/
def fnDefinitionTwoBytesDecideWrong : ChangeSpec := { name := "fnDefinitionTwoBytesDecide", fn := fun _ => fun
  | [d1, d2, d3, d4, d5, d6, d7] => { results := [.lit (.bool false)], args := [d1, d2, d3, d4, d5, d6, d7] }
  | _ => none }
def FnDefinitionTwoBytesDecideWrongFalsely : Prop := fnDefinitionTwoBytesDecideRow.holds Trym.pinned (OpenSpec.ofChange fnDefinitionTwoBytesDecideWrong)

end Rows
end Go.Proofs.Qxb6618743aMods

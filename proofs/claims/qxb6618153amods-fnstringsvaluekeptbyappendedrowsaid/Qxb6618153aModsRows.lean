/-
  No cell of these rows narrows 'for every input' (looked for: loops, veiled, ifaces, maps, wideKeys, modest, calm, conditions, laid).
  DERIVED. THE GIVEN ROWS OF THIS SEAT. 2 by the template 'for every input the law returns true; each argument reads behind the call as it read before'; 0 by the template 'total and deterministic' (their statements: Qxb6618153aModsTotals.lean).
  GIVEN WITH THE SEED: the statements are not yours to turn. If you find one false, say at which input.
  Laid BY PROGRAM, IN A SANDBOX (cutbox-rows.mjs): the forced cells as the released guide's own fill.sh prints them over the translation 7c1203ddcfddaec5… (all of the seat's roots in one cut). By AI agents, Wed Nov 11 2026. No macro, syntax, notation, axiom, sorry.
-/
import Derived.Test.Qxb6618153aModsChecked
import GoSem.Claim
import GoSem.ClaimJoined
import GoSem.ClaimMapViews
import Derived.JoinedTies
import Derived.KernelRfl
namespace Go.Proofs.Qxb6618153aMods
/- THE CELL 'sum', in the pinned program and in every row, IS THE sha256 OF THE DUMP (.gsa) THAT Qxb6618153aModsProg.lean LOADS. Nothing in Lean hashes anything: it is a label: what it is worth is what the hold of that sum in a sandbox is worth. -/
noncomputable def Trym.pinned : Pinned := { name := "qxb6618153amods", sum := "7c1203ddcfddaec545d5fcc346cae8d94afdeacdbac93422e46b6c4435a6473a", checked := Trym.checked }
namespace Rows
def none {H : Type} : Left H := { results := [], args := [] }

/-- 'zzlaws_root_b1.FnStringsValueLiesBackToBack': WHATEVER THE INPUT: true; the input reads as it did. -/
def fnStringsValueLiesBackToBackSpec : ChangeSpec := { name := "fnStringsValueLiesBackToBack", fn := fun _ => fun
  | [d1, d2, d3] => { results := [.lit (.bool true)], args := [d1, d2, d3] }
  | _ => none }
def fnStringsValueLiesBackToBackRow : OpenClaim := { program := "qxb6618153amods", sum := "7c1203ddcfddaec545d5fcc346cae8d94afdeacdbac93422e46b6c4435a6473a", func := "example.com/blockwire/blockwire/zzlaws_root_b1.FnStringsValueLiesBackToBack", spec := "fnStringsValueLiesBackToBack", make := .lifted ["publicsums"], apart := false }
def FnStringsValueLiesBackToBackSaid : Prop := fnStringsValueLiesBackToBackRow.holds Trym.pinned (OpenSpec.ofChange fnStringsValueLiesBackToBackSpec)

/-- ITS FALSE NEIGHBOUR: 'it returns false'. Refute it at one input. -/
def fnStringsValueLiesBackToBackWrong : ChangeSpec := { name := "fnStringsValueLiesBackToBack", fn := fun _ => fun
  | [d1, d2, d3] => { results := [.lit (.bool false)], args := [d1, d2, d3] }
  | _ => none }
def FnStringsValueLiesBackToBackWrongFalsely : Prop := fnStringsValueLiesBackToBackRow.holds Trym.pinned (OpenSpec.ofChange fnStringsValueLiesBackToBackWrong)

/-- 'zzlaws_root_b1.FnStringsValueKeptByAppendedRow': WHATEVER THE INPUT: true; the input reads as it did. -/
def fnStringsValueKeptByAppendedRowSpec : ChangeSpec := { name := "fnStringsValueKeptByAppendedRow", fn := fun _ => fun
  | [d1, d2, d3, d4] => { results := [.lit (.bool true)], args := [d1, d2, d3, d4] }
  | _ => none }
def fnStringsValueKeptByAppendedRowRow : OpenClaim := { program := "qxb6618153amods", sum := "7c1203ddcfddaec545d5fcc346cae8d94afdeacdbac93422e46b6c4435a6473a", func := "example.com/blockwire/blockwire/zzlaws_root_b1.FnStringsValueKeptByAppendedRow", spec := "fnStringsValueKeptByAppendedRow", make := .lifted ["publicsums"], apart := false }
def FnStringsValueKeptByAppendedRowSaid : Prop := fnStringsValueKeptByAppendedRowRow.holds Trym.pinned (OpenSpec.ofChange fnStringsValueKeptByAppendedRowSpec)

/-- ITS FALSE NEIGHBOUR: 'it returns false'. Refute it at one input. -/
def fnStringsValueKeptByAppendedRowWrong : ChangeSpec := { name := "fnStringsValueKeptByAppendedRow", fn := fun _ => fun
  | [d1, d2, d3, d4] => { results := [.lit (.bool false)], args := [d1, d2, d3, d4] }
  | _ => none }
def FnStringsValueKeptByAppendedRowWrongFalsely : Prop := fnStringsValueKeptByAppendedRowRow.holds Trym.pinned (OpenSpec.ofChange fnStringsValueKeptByAppendedRowWrong)

end Rows
end Go.Proofs.Qxb6618153aMods

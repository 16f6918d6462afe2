/-
  No cell of these rows narrows 'for every input' (looked for: loops, veiled, ifaces, maps, wideKeys, modest, calm, conditions, laid).
  DERIVED. THE GIVEN ROWS OF THIS SEAT. 2 by the template 'for every input the law returns true; each argument reads behind the call as it read before'; 0 by the template 'total and deterministic' (their statements: Qxb6604053aTotals.lean).
  GIVEN WITH THE SEED: the statements are not yours to turn. If you find one false, say at which input.
  Laid BY PROGRAM, IN A SANDBOX (cutbox-rows.mjs): the forced cells as the released guide's own fill.sh prints them over the translation 019442fd84ee2e3e… (all of the seat's roots in one cut). By AI agents, Wed Nov 11 2026. No macro, syntax, notation, axiom, sorry.
-/
import Derived.Test.Qxb6604053aChecked
import GoSem.Claim
import GoSem.ClaimJoined
import GoSem.ClaimMapViews
import Derived.JoinedTies
import Derived.KernelRfl
namespace Go.Proofs.Qxb6604053a
/- THE CELL 'sum', in the pinned program and in every row, IS THE sha256 OF THE DUMP (.gsa) THAT Qxb6604053aProg.lean LOADS. Nothing in Lean hashes anything: it is a label: what it is worth is what the hold of that sum in a sandbox is worth. -/
noncomputable def Try.pinned : Pinned := { name := "qxb6604053a", sum := "019442fd84ee2e3e99132c26ed202764ef5a312e1a7a25c9275d9cc0927c9609", checked := Try.checked }
namespace Rows
def none {H : Type} : Left H := { results := [], args := [] }

/-- 'zzlaws_internal_snapshot_b1.FnRollupMergesEachJobAndCmdIntoItsFirst': WHATEVER THE INPUT: true; the input reads as it did. -/
def fnRollupMergesEachJobAndCmdIntoItsFirstSpec : ChangeSpec := { name := "fnRollupMergesEachJobAndCmdIntoItsFirst", fn := fun _ => fun
  | [d] => { results := [.lit (.bool true)], args := [d] }
  | _ => none }
def fnRollupMergesEachJobAndCmdIntoItsFirstRow : OpenClaim := { program := "qxb6604053a", sum := "019442fd84ee2e3e99132c26ed202764ef5a312e1a7a25c9275d9cc0927c9609", func := "example.com/nodepulse/nodepulse/zzlaws_internal_snapshot_b1.FnRollupMergesEachJobAndCmdIntoItsFirst", spec := "fnRollupMergesEachJobAndCmdIntoItsFirst", plainKeys := false, apart := false }
def FnRollupMergesEachJobAndCmdIntoItsFirstSaid : Prop := fnRollupMergesEachJobAndCmdIntoItsFirstRow.holds Try.pinned (OpenSpec.ofChange fnRollupMergesEachJobAndCmdIntoItsFirstSpec)

/-- ITS FALSE NEIGHBOUR: 'it returns false'. Refute it at one input. -/
def fnRollupMergesEachJobAndCmdIntoItsFirstWrong : ChangeSpec := { name := "fnRollupMergesEachJobAndCmdIntoItsFirst", fn := fun _ => fun
  | [d] => { results := [.lit (.bool false)], args := [d] }
  | _ => none }
def FnRollupMergesEachJobAndCmdIntoItsFirstWrongFalsely : Prop := fnRollupMergesEachJobAndCmdIntoItsFirstRow.holds Try.pinned (OpenSpec.ofChange fnRollupMergesEachJobAndCmdIntoItsFirstWrong)

/-- 'zzlaws_internal_snapshot_b1.FnRollupKeepsProcessCountAndIntegerSums': WHATEVER THE INPUT: true; the input reads as it did. -/
def fnRollupKeepsProcessCountAndIntegerSumsSpec : ChangeSpec := { name := "fnRollupKeepsProcessCountAndIntegerSums", fn := fun _ => fun
  | [d] => { results := [.lit (.bool true)], args := [d] }
  | _ => none }
def fnRollupKeepsProcessCountAndIntegerSumsRow : OpenClaim := { program := "qxb6604053a", sum := "019442fd84ee2e3e99132c26ed202764ef5a312e1a7a25c9275d9cc0927c9609", func := "example.com/nodepulse/nodepulse/zzlaws_internal_snapshot_b1.FnRollupKeepsProcessCountAndIntegerSums", spec := "fnRollupKeepsProcessCountAndIntegerSums", plainKeys := false, apart := false }
def FnRollupKeepsProcessCountAndIntegerSumsSaid : Prop := fnRollupKeepsProcessCountAndIntegerSumsRow.holds Try.pinned (OpenSpec.ofChange fnRollupKeepsProcessCountAndIntegerSumsSpec)

/-- ITS FALSE NEIGHBOUR: 'it returns false'. Refute it at one input. -/
def fnRollupKeepsProcessCountAndIntegerSumsWrong : ChangeSpec := { name := "fnRollupKeepsProcessCountAndIntegerSums", fn := fun _ => fun
  | [d] => { results := [.lit (.bool false)], args := [d] }
  | _ => none }
def FnRollupKeepsProcessCountAndIntegerSumsWrongFalsely : Prop := fnRollupKeepsProcessCountAndIntegerSumsRow.holds Try.pinned (OpenSpec.ofChange fnRollupKeepsProcessCountAndIntegerSumsWrong)

end Rows
end Go.Proofs.Qxb6604053a

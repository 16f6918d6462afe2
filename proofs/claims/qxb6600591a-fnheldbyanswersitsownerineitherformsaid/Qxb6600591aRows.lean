/-
  No cell of these rows narrows 'for every input' (looked for: loops, veiled, ifaces, maps, wideKeys, modest, calm, conditions, laid).
  DERIVED. THE GIVEN ROWS OF THIS SEAT. 4 by the template 'for every input the law returns true; each argument reads behind the call as it read before'; 0 by the template 'total and deterministic' (their statements: Qxb6600591aTotals.lean).
  GIVEN WITH THE SEED: the statements are not yours to turn. If you find one false, say at which input.
  Laid BY PROGRAM, IN A SANDBOX (cutbox-rows.mjs): the forced cells as the released guide's own fill.sh prints them over the translation 523d7f123a2ef361… (all of the seat's roots in one cut). By AI agents, Wed Nov 11 2026. No macro, syntax, notation, axiom, sorry.
-/
import Derived.Test.Qxb6600591aChecked
import GoSem.Claim
import GoSem.ClaimJoined
import GoSem.ClaimMapViews
import Derived.JoinedTies
import Derived.KernelRfl
namespace Go.Proofs.Qxb6600591a
/- THE CELL 'sum', in the pinned program and in every row, IS THE sha256 OF THE DUMP (.gsa) THAT Qxb6600591aProg.lean LOADS. Nothing in Lean hashes anything: it is a label: what it is worth is what the hold of that sum in a sandbox is worth. -/
noncomputable def Try.pinned : Pinned := { name := "qxb6600591a", sum := "523d7f123a2ef36171d2c00b0e958bd3c4a0463a2be83528b86220b18acb922d", checked := Try.checked }
namespace Rows
def none {H : Type} : Left H := { results := [], args := [] }

/-- 'zzlaws_pkg_auction_b1.FnIsAnswersItsIDInEitherForm': WHATEVER THE INPUT: true; the input reads as it did. -/
def fnIsAnswersItsIDInEitherFormSpec : ChangeSpec := { name := "fnIsAnswersItsIDInEitherForm", fn := fun _ => fun
  | [d1, d2, d3, d4, d5] => { results := [.lit (.bool true)], args := [d1, d2, d3, d4, d5] }
  | _ => none }
def fnIsAnswersItsIDInEitherFormRow : OpenClaim := { program := "qxb6600591a", sum := "523d7f123a2ef36171d2c00b0e958bd3c4a0463a2be83528b86220b18acb922d", func := "example.com/fineounce/fineounce/zzlaws_pkg_auction_b1.FnIsAnswersItsIDInEitherForm", spec := "fnIsAnswersItsIDInEitherForm", apart := false }
def FnIsAnswersItsIDInEitherFormSaid : Prop := fnIsAnswersItsIDInEitherFormRow.holds Try.pinned (OpenSpec.ofChange fnIsAnswersItsIDInEitherFormSpec)

/-- ITS FALSE NEIGHBOUR: 'it returns false'. Refute it at one input. -/
def fnIsAnswersItsIDInEitherFormWrong : ChangeSpec := { name := "fnIsAnswersItsIDInEitherForm", fn := fun _ => fun
  | [d1, d2, d3, d4, d5] => { results := [.lit (.bool false)], args := [d1, d2, d3, d4, d5] }
  | _ => none }
def FnIsAnswersItsIDInEitherFormWrongFalsely : Prop := fnIsAnswersItsIDInEitherFormRow.holds Try.pinned (OpenSpec.ofChange fnIsAnswersItsIDInEitherFormWrong)

/-- 'zzlaws_pkg_auction_b1.FnIsAcceptsAtMostOneID': WHATEVER THE INPUT: true; the input reads as it did. -/
def fnIsAcceptsAtMostOneIDSpec : ChangeSpec := { name := "fnIsAcceptsAtMostOneID", fn := fun _ => fun
  | [d1, d2, d3, d4, d5] => { results := [.lit (.bool true)], args := [d1, d2, d3, d4, d5] }
  | _ => none }
def fnIsAcceptsAtMostOneIDRow : OpenClaim := { program := "qxb6600591a", sum := "523d7f123a2ef36171d2c00b0e958bd3c4a0463a2be83528b86220b18acb922d", func := "example.com/fineounce/fineounce/zzlaws_pkg_auction_b1.FnIsAcceptsAtMostOneID", spec := "fnIsAcceptsAtMostOneID", apart := false }
def FnIsAcceptsAtMostOneIDSaid : Prop := fnIsAcceptsAtMostOneIDRow.holds Try.pinned (OpenSpec.ofChange fnIsAcceptsAtMostOneIDSpec)

/-- ITS FALSE NEIGHBOUR: 'it returns false'. Refute it at one input. -/
def fnIsAcceptsAtMostOneIDWrong : ChangeSpec := { name := "fnIsAcceptsAtMostOneID", fn := fun _ => fun
  | [d1, d2, d3, d4, d5] => { results := [.lit (.bool false)], args := [d1, d2, d3, d4, d5] }
  | _ => none }
def FnIsAcceptsAtMostOneIDWrongFalsely : Prop := fnIsAcceptsAtMostOneIDRow.holds Try.pinned (OpenSpec.ofChange fnIsAcceptsAtMostOneIDWrong)

/-- 'zzlaws_pkg_auction_b1.FnHeldByAnswersItsOwnerInEitherForm': WHATEVER THE INPUT: true; the input reads as it did. -/
def fnHeldByAnswersItsOwnerInEitherFormSpec : ChangeSpec := { name := "fnHeldByAnswersItsOwnerInEitherForm", fn := fun _ => fun
  | [d1, d2, d3, d4, d5, d6] => { results := [.lit (.bool true)], args := [d1, d2, d3, d4, d5, d6] }
  | _ => none }
def fnHeldByAnswersItsOwnerInEitherFormRow : OpenClaim := { program := "qxb6600591a", sum := "523d7f123a2ef36171d2c00b0e958bd3c4a0463a2be83528b86220b18acb922d", func := "example.com/fineounce/fineounce/zzlaws_pkg_auction_b1.FnHeldByAnswersItsOwnerInEitherForm", spec := "fnHeldByAnswersItsOwnerInEitherForm", apart := false }
def FnHeldByAnswersItsOwnerInEitherFormSaid : Prop := fnHeldByAnswersItsOwnerInEitherFormRow.holds Try.pinned (OpenSpec.ofChange fnHeldByAnswersItsOwnerInEitherFormSpec)

/-- ITS FALSE NEIGHBOUR: 'it returns false'. Refute it at one input. -/
def fnHeldByAnswersItsOwnerInEitherFormWrong : ChangeSpec := { name := "fnHeldByAnswersItsOwnerInEitherForm", fn := fun _ => fun
  | [d1, d2, d3, d4, d5, d6] => { results := [.lit (.bool false)], args := [d1, d2, d3, d4, d5, d6] }
  | _ => none }
def FnHeldByAnswersItsOwnerInEitherFormWrongFalsely : Prop := fnHeldByAnswersItsOwnerInEitherFormRow.holds Try.pinned (OpenSpec.ofChange fnHeldByAnswersItsOwnerInEitherFormWrong)

/-- 'zzlaws_pkg_auction_b1.FnHeldByAtMostOneHolder': WHATEVER THE INPUT: true; the input reads as it did. -/
def fnHeldByAtMostOneHolderSpec : ChangeSpec := { name := "fnHeldByAtMostOneHolder", fn := fun _ => fun
  | [d1, d2, d3, d4, d5, d6, d7, d8] => { results := [.lit (.bool true)], args := [d1, d2, d3, d4, d5, d6, d7, d8] }
  | _ => none }
def fnHeldByAtMostOneHolderRow : OpenClaim := { program := "qxb6600591a", sum := "523d7f123a2ef36171d2c00b0e958bd3c4a0463a2be83528b86220b18acb922d", func := "example.com/fineounce/fineounce/zzlaws_pkg_auction_b1.FnHeldByAtMostOneHolder", spec := "fnHeldByAtMostOneHolder", apart := false }
def FnHeldByAtMostOneHolderSaid : Prop := fnHeldByAtMostOneHolderRow.holds Try.pinned (OpenSpec.ofChange fnHeldByAtMostOneHolderSpec)

/-- ITS FALSE NEIGHBOUR: 'it returns false'. Refute it at one input. -/
def fnHeldByAtMostOneHolderWrong : ChangeSpec := { name := "fnHeldByAtMostOneHolder", fn := fun _ => fun
  | [d1, d2, d3, d4, d5, d6, d7, d8] => { results := [.lit (.bool false)], args := [d1, d2, d3, d4, d5, d6, d7, d8] }
  | _ => none }
def FnHeldByAtMostOneHolderWrongFalsely : Prop := fnHeldByAtMostOneHolderRow.holds Try.pinned (OpenSpec.ofChange fnHeldByAtMostOneHolderWrong)

end Rows
end Go.Proofs.Qxb6600591a

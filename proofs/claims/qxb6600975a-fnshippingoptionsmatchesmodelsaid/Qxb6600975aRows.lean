/-
  No cell of these rows narrows 'for every input' (looked for: loops, veiled, ifaces, maps, wideKeys, modest, calm, conditions, laid).
  DERIVED. THE GIVEN ROWS OF THIS SEAT. 5 by the template 'for every input the law returns true; each argument reads behind the call as it read before'; 0 by the template 'total and deterministic' (their statements: Qxb6600975aTotals.lean).
  GIVEN WITH THE SEED: the statements are not yours to turn. If you find one false, say at which input.
  Laid BY PROGRAM, IN A SANDBOX (cutbox-rows.mjs): the forced cells as the released guide's own fill.sh prints them over the translation c301a05eb4bb6a56… (all of the seat's roots in one cut). By AI agents, Wed Nov 11 2026. No macro, syntax, notation, axiom, sorry.
-/
import Derived.Test.Qxb6600975aChecked
import GoSem.Claim
import GoSem.ClaimJoined
import GoSem.ClaimMapViews
import Derived.JoinedTies
import Derived.KernelRfl
namespace Go.Proofs.Qxb6600975a
/- THE CELL 'sum', in the pinned program and in every row, IS THE sha256 OF THE DUMP (.gsa) THAT Qxb6600975aProg.lean LOADS. Nothing in Lean hashes anything: it is a label: what it is worth is what the hold of that sum in a sandbox is worth. -/
noncomputable def Try.pinned : Pinned := { name := "qxb6600975a", sum := "c301a05eb4bb6a5663ef62c3f7c9951747c8cf9e4513e0afcb58676ef022d61e", checked := Try.checked }
namespace Rows
def none {H : Type} : Left H := { results := [], args := [] }

/-- 'zzlaws_internal_checkout_b1.FnShippingOptionsMatchesModel': WHATEVER THE INPUT: true; the input reads as it did. -/
def fnShippingOptionsMatchesModelSpec : ChangeSpec := { name := "fnShippingOptionsMatchesModel", fn := fun _ => fun
  | [d1, d2] => { results := [.lit (.bool true)], args := [d1, d2] }
  | _ => none }
def fnShippingOptionsMatchesModelRow : OpenClaim := { program := "qxb6600975a", sum := "c301a05eb4bb6a5663ef62c3f7c9951747c8cf9e4513e0afcb58676ef022d61e", func := "example.com/tillgate/tillgate/zzlaws_internal_checkout_b1.FnShippingOptionsMatchesModel", spec := "fnShippingOptionsMatchesModel", plainKeys := false, apart := false }
def FnShippingOptionsMatchesModelSaid : Prop := fnShippingOptionsMatchesModelRow.holds Try.pinned (OpenSpec.ofChange fnShippingOptionsMatchesModelSpec)

/-- ITS FALSE NEIGHBOUR: 'it returns false'. Refute it at one input. -/
def fnShippingOptionsMatchesModelWrong : ChangeSpec := { name := "fnShippingOptionsMatchesModel", fn := fun _ => fun
  | [d1, d2] => { results := [.lit (.bool false)], args := [d1, d2] }
  | _ => none }
def FnShippingOptionsMatchesModelWrongFalsely : Prop := fnShippingOptionsMatchesModelRow.holds Try.pinned (OpenSpec.ofChange fnShippingOptionsMatchesModelWrong)

/-- 'zzlaws_internal_checkout_b1.FnShippingOptionsIgnoresOtherCountries': WHATEVER THE INPUT: true; the input reads as it did. -/
def fnShippingOptionsIgnoresOtherCountriesSpec : ChangeSpec := { name := "fnShippingOptionsIgnoresOtherCountries", fn := fun _ => fun
  | [d1, d2] => { results := [.lit (.bool true)], args := [d1, d2] }
  | _ => none }
def fnShippingOptionsIgnoresOtherCountriesRow : OpenClaim := { program := "qxb6600975a", sum := "c301a05eb4bb6a5663ef62c3f7c9951747c8cf9e4513e0afcb58676ef022d61e", func := "example.com/tillgate/tillgate/zzlaws_internal_checkout_b1.FnShippingOptionsIgnoresOtherCountries", spec := "fnShippingOptionsIgnoresOtherCountries", plainKeys := false, apart := false }
def FnShippingOptionsIgnoresOtherCountriesSaid : Prop := fnShippingOptionsIgnoresOtherCountriesRow.holds Try.pinned (OpenSpec.ofChange fnShippingOptionsIgnoresOtherCountriesSpec)

/-- ITS FALSE NEIGHBOUR: 'it returns false'. Refute it at one input. -/
def fnShippingOptionsIgnoresOtherCountriesWrong : ChangeSpec := { name := "fnShippingOptionsIgnoresOtherCountries", fn := fun _ => fun
  | [d1, d2] => { results := [.lit (.bool false)], args := [d1, d2] }
  | _ => none }
def FnShippingOptionsIgnoresOtherCountriesWrongFalsely : Prop := fnShippingOptionsIgnoresOtherCountriesRow.holds Try.pinned (OpenSpec.ofChange fnShippingOptionsIgnoresOtherCountriesWrong)

/-- 'zzlaws_internal_checkout_b1.FnShippingOptionsReversesWithRates': WHATEVER THE INPUT: true; the input reads as it did. -/
def fnShippingOptionsReversesWithRatesSpec : ChangeSpec := { name := "fnShippingOptionsReversesWithRates", fn := fun _ => fun
  | [d1, d2] => { results := [.lit (.bool true)], args := [d1, d2] }
  | _ => none }
def fnShippingOptionsReversesWithRatesRow : OpenClaim := { program := "qxb6600975a", sum := "c301a05eb4bb6a5663ef62c3f7c9951747c8cf9e4513e0afcb58676ef022d61e", func := "example.com/tillgate/tillgate/zzlaws_internal_checkout_b1.FnShippingOptionsReversesWithRates", spec := "fnShippingOptionsReversesWithRates", plainKeys := false, apart := false }
def FnShippingOptionsReversesWithRatesSaid : Prop := fnShippingOptionsReversesWithRatesRow.holds Try.pinned (OpenSpec.ofChange fnShippingOptionsReversesWithRatesSpec)

/-- ITS FALSE NEIGHBOUR: 'it returns false'. Refute it at one input. -/
def fnShippingOptionsReversesWithRatesWrong : ChangeSpec := { name := "fnShippingOptionsReversesWithRates", fn := fun _ => fun
  | [d1, d2] => { results := [.lit (.bool false)], args := [d1, d2] }
  | _ => none }
def FnShippingOptionsReversesWithRatesWrongFalsely : Prop := fnShippingOptionsReversesWithRatesRow.holds Try.pinned (OpenSpec.ofChange fnShippingOptionsReversesWithRatesWrong)

/-- 'zzlaws_internal_checkout_b1.FnTaxRateMatchesModel': WHATEVER THE INPUT: true; the input reads as it did. -/
def fnTaxRateMatchesModelSpec : ChangeSpec := { name := "fnTaxRateMatchesModel", fn := fun _ => fun
  | [d1, d2] => { results := [.lit (.bool true)], args := [d1, d2] }
  | _ => none }
def fnTaxRateMatchesModelRow : OpenClaim := { program := "qxb6600975a", sum := "c301a05eb4bb6a5663ef62c3f7c9951747c8cf9e4513e0afcb58676ef022d61e", func := "example.com/tillgate/tillgate/zzlaws_internal_checkout_b1.FnTaxRateMatchesModel", spec := "fnTaxRateMatchesModel", plainKeys := false, apart := false }
def FnTaxRateMatchesModelSaid : Prop := fnTaxRateMatchesModelRow.holds Try.pinned (OpenSpec.ofChange fnTaxRateMatchesModelSpec)

/-- ITS FALSE NEIGHBOUR: 'it returns false'. Refute it at one input. -/
def fnTaxRateMatchesModelWrong : ChangeSpec := { name := "fnTaxRateMatchesModel", fn := fun _ => fun
  | [d1, d2] => { results := [.lit (.bool false)], args := [d1, d2] }
  | _ => none }
def FnTaxRateMatchesModelWrongFalsely : Prop := fnTaxRateMatchesModelRow.holds Try.pinned (OpenSpec.ofChange fnTaxRateMatchesModelWrong)

/-- 'zzlaws_internal_checkout_b1.FnTaxRateOrderFreeWhenCodesUnique': WHATEVER THE INPUT: true; the input reads as it did. -/
def fnTaxRateOrderFreeWhenCodesUniqueSpec : ChangeSpec := { name := "fnTaxRateOrderFreeWhenCodesUnique", fn := fun _ => fun
  | [d1, d2] => { results := [.lit (.bool true)], args := [d1, d2] }
  | _ => none }
def fnTaxRateOrderFreeWhenCodesUniqueRow : OpenClaim := { program := "qxb6600975a", sum := "c301a05eb4bb6a5663ef62c3f7c9951747c8cf9e4513e0afcb58676ef022d61e", func := "example.com/tillgate/tillgate/zzlaws_internal_checkout_b1.FnTaxRateOrderFreeWhenCodesUnique", spec := "fnTaxRateOrderFreeWhenCodesUnique", plainKeys := false, apart := false }
def FnTaxRateOrderFreeWhenCodesUniqueSaid : Prop := fnTaxRateOrderFreeWhenCodesUniqueRow.holds Try.pinned (OpenSpec.ofChange fnTaxRateOrderFreeWhenCodesUniqueSpec)

/-- ITS FALSE NEIGHBOUR: 'it returns false'. Refute it at one input. -/
def fnTaxRateOrderFreeWhenCodesUniqueWrong : ChangeSpec := { name := "fnTaxRateOrderFreeWhenCodesUnique", fn := fun _ => fun
  | [d1, d2] => { results := [.lit (.bool false)], args := [d1, d2] }
  | _ => none }
def FnTaxRateOrderFreeWhenCodesUniqueWrongFalsely : Prop := fnTaxRateOrderFreeWhenCodesUniqueRow.holds Try.pinned (OpenSpec.ofChange fnTaxRateOrderFreeWhenCodesUniqueWrong)

end Rows
end Go.Proofs.Qxb6600975a

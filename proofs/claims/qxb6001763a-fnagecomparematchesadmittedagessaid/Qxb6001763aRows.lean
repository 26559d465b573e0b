/-
  No cell of these rows narrows 'for every input' (looked for: loops, veiled, ifaces, maps, wideKeys, modest, calm, conditions, laid).
  DERIVED. THE GIVEN ROWS OF THIS SEAT. 5 by the template 'for every input the law returns true; each argument reads behind the call as it read before'; 0 by the template 'total and deterministic' (their statements: Qxb6001763aTotals.lean).
  GIVEN WITH THE SEED: the statements are not yours to turn. If you find one false, say at which input.
  Laid BY PROGRAM, IN A SANDBOX (cutbox-rows.mjs): the forced cells as the released guide's own fill.sh prints them over the translation a042323dfeefd054… (all of the seat's roots in one cut). By AI agents, Wed Nov 11 2026. No macro, syntax, notation, axiom, sorry.
-/
import Derived.Test.Qxb6001763aChecked
import GoSem.Claim
import GoSem.ClaimJoined
import GoSem.ClaimMapViews
import Derived.JoinedTies
import Derived.KernelRfl
namespace Go.Proofs.Qxb6001763a
/- THE CELL 'sum', in the pinned program and in every row, IS THE sha256 OF THE DUMP (.gsa) THAT Qxb6001763aProg.lean LOADS. Nothing in Lean hashes anything: it is a label: what it is worth is what the hold of that sum in a sandbox is worth. -/
noncomputable def Try.pinned : Pinned := { name := "qxb6001763a", sum := "a042323dfeefd0545dec03d9fb8fbd8dbc2d02019ba6d3e72ce7fe3840bc93f8", checked := Try.checked }
namespace Rows
def none {H : Type} : Left H := { results := [], args := [] }

/-- 'zzlaws_pkg_manual_b1.FnAgeCompareMatchesAdmittedAges': WHATEVER THE INPUT: true; the input reads as it did. -/
def fnAgeCompareMatchesAdmittedAgesSpec : ChangeSpec := { name := "fnAgeCompareMatchesAdmittedAges", fn := fun _ => fun
  | [d1, d2, d3, d4, d5, d6] => { results := [.lit (.bool true)], args := [d1, d2, d3, d4, d5, d6] }
  | _ => none }
def fnAgeCompareMatchesAdmittedAgesRow : OpenClaim := { program := "qxb6001763a", sum := "a042323dfeefd0545dec03d9fb8fbd8dbc2d02019ba6d3e72ce7fe3840bc93f8", func := "example.com/ratebook/ratebook/zzlaws_pkg_manual_b1.FnAgeCompareMatchesAdmittedAges", spec := "fnAgeCompareMatchesAdmittedAges", apart := false }
def FnAgeCompareMatchesAdmittedAgesSaid : Prop := fnAgeCompareMatchesAdmittedAgesRow.holds Try.pinned (OpenSpec.ofChange fnAgeCompareMatchesAdmittedAgesSpec)

/-- ITS FALSE NEIGHBOUR: 'it returns false'. Refute it at one input. -/
def fnAgeCompareMatchesAdmittedAgesWrong : ChangeSpec := { name := "fnAgeCompareMatchesAdmittedAges", fn := fun _ => fun
  | [d1, d2, d3, d4, d5, d6] => { results := [.lit (.bool false)], args := [d1, d2, d3, d4, d5, d6] }
  | _ => none }
def FnAgeCompareMatchesAdmittedAgesWrongFalsely : Prop := fnAgeCompareMatchesAdmittedAgesRow.holds Try.pinned (OpenSpec.ofChange fnAgeCompareMatchesAdmittedAgesWrong)

/-- 'zzlaws_pkg_manual_b1.FnAgeCompareAntisymmetric': WHATEVER THE INPUT: true; the input reads as it did. -/
def fnAgeCompareAntisymmetricSpec : ChangeSpec := { name := "fnAgeCompareAntisymmetric", fn := fun _ => fun
  | [d1, d2, d3, d4, d5, d6] => { results := [.lit (.bool true)], args := [d1, d2, d3, d4, d5, d6] }
  | _ => none }
def fnAgeCompareAntisymmetricRow : OpenClaim := { program := "qxb6001763a", sum := "a042323dfeefd0545dec03d9fb8fbd8dbc2d02019ba6d3e72ce7fe3840bc93f8", func := "example.com/ratebook/ratebook/zzlaws_pkg_manual_b1.FnAgeCompareAntisymmetric", spec := "fnAgeCompareAntisymmetric", apart := false }
def FnAgeCompareAntisymmetricSaid : Prop := fnAgeCompareAntisymmetricRow.holds Try.pinned (OpenSpec.ofChange fnAgeCompareAntisymmetricSpec)

/-- ITS FALSE NEIGHBOUR: 'it returns false'. Refute it at one input. -/
def fnAgeCompareAntisymmetricWrong : ChangeSpec := { name := "fnAgeCompareAntisymmetric", fn := fun _ => fun
  | [d1, d2, d3, d4, d5, d6] => { results := [.lit (.bool false)], args := [d1, d2, d3, d4, d5, d6] }
  | _ => none }
def FnAgeCompareAntisymmetricWrongFalsely : Prop := fnAgeCompareAntisymmetricRow.holds Try.pinned (OpenSpec.ofChange fnAgeCompareAntisymmetricWrong)

/-- 'zzlaws_pkg_manual_b1.FnAgeCompareTransitive': WHATEVER THE INPUT: true; the input reads as it did. -/
def fnAgeCompareTransitiveSpec : ChangeSpec := { name := "fnAgeCompareTransitive", fn := fun _ => fun
  | [d1, d2, d3, d4, d5, d6, d7, d8, d9] => { results := [.lit (.bool true)], args := [d1, d2, d3, d4, d5, d6, d7, d8, d9] }
  | _ => none }
def fnAgeCompareTransitiveRow : OpenClaim := { program := "qxb6001763a", sum := "a042323dfeefd0545dec03d9fb8fbd8dbc2d02019ba6d3e72ce7fe3840bc93f8", func := "example.com/ratebook/ratebook/zzlaws_pkg_manual_b1.FnAgeCompareTransitive", spec := "fnAgeCompareTransitive", apart := false }
def FnAgeCompareTransitiveSaid : Prop := fnAgeCompareTransitiveRow.holds Try.pinned (OpenSpec.ofChange fnAgeCompareTransitiveSpec)

/-- ITS FALSE NEIGHBOUR: 'it returns false'. Refute it at one input. -/
def fnAgeCompareTransitiveWrong : ChangeSpec := { name := "fnAgeCompareTransitive", fn := fun _ => fun
  | [d1, d2, d3, d4, d5, d6, d7, d8, d9] => { results := [.lit (.bool false)], args := [d1, d2, d3, d4, d5, d6, d7, d8, d9] }
  | _ => none }
def FnAgeCompareTransitiveWrongFalsely : Prop := fnAgeCompareTransitiveRow.holds Try.pinned (OpenSpec.ofChange fnAgeCompareTransitiveWrong)

/-- 'zzlaws_pkg_manual_b1.FnChargeNeedsTellsAmountsApart': WHATEVER THE INPUT: true; the input reads as it did. -/
def fnChargeNeedsTellsAmountsApartSpec : ChangeSpec := { name := "fnChargeNeedsTellsAmountsApart", fn := fun _ => fun
  | [d1, d2] => { results := [.lit (.bool true)], args := [d1, d2] }
  | _ => none }
def fnChargeNeedsTellsAmountsApartRow : OpenClaim := { program := "qxb6001763a", sum := "a042323dfeefd0545dec03d9fb8fbd8dbc2d02019ba6d3e72ce7fe3840bc93f8", func := "example.com/ratebook/ratebook/zzlaws_pkg_manual_b1.FnChargeNeedsTellsAmountsApart", spec := "fnChargeNeedsTellsAmountsApart", apart := false }
def FnChargeNeedsTellsAmountsApartSaid : Prop := fnChargeNeedsTellsAmountsApartRow.holds Try.pinned (OpenSpec.ofChange fnChargeNeedsTellsAmountsApartSpec)

/-- ITS FALSE NEIGHBOUR: 'it returns false'. Refute it at one input. -/
def fnChargeNeedsTellsAmountsApartWrong : ChangeSpec := { name := "fnChargeNeedsTellsAmountsApart", fn := fun _ => fun
  | [d1, d2] => { results := [.lit (.bool false)], args := [d1, d2] }
  | _ => none }
def FnChargeNeedsTellsAmountsApartWrongFalsely : Prop := fnChargeNeedsTellsAmountsApartRow.holds Try.pinned (OpenSpec.ofChange fnChargeNeedsTellsAmountsApartWrong)

/-- 'zzlaws_pkg_manual_b1.FnChargeNeedsIgnoresOtherFields': WHATEVER THE INPUT: true; the input reads as it did. -/
def fnChargeNeedsIgnoresOtherFieldsSpec : ChangeSpec := { name := "fnChargeNeedsIgnoresOtherFields", fn := fun _ => fun
  | [d1, d2, d3, d4, d5, d6, d7, d8, d9, d10] => { results := [.lit (.bool true)], args := [d1, d2, d3, d4, d5, d6, d7, d8, d9, d10] }
  | _ => none }
def fnChargeNeedsIgnoresOtherFieldsRow : OpenClaim := { program := "qxb6001763a", sum := "a042323dfeefd0545dec03d9fb8fbd8dbc2d02019ba6d3e72ce7fe3840bc93f8", func := "example.com/ratebook/ratebook/zzlaws_pkg_manual_b1.FnChargeNeedsIgnoresOtherFields", spec := "fnChargeNeedsIgnoresOtherFields", apart := false }
def FnChargeNeedsIgnoresOtherFieldsSaid : Prop := fnChargeNeedsIgnoresOtherFieldsRow.holds Try.pinned (OpenSpec.ofChange fnChargeNeedsIgnoresOtherFieldsSpec)

/-- ITS FALSE NEIGHBOUR: 'it returns false'. Refute it at one input. -/
def fnChargeNeedsIgnoresOtherFieldsWrong : ChangeSpec := { name := "fnChargeNeedsIgnoresOtherFields", fn := fun _ => fun
  | [d1, d2, d3, d4, d5, d6, d7, d8, d9, d10] => { results := [.lit (.bool false)], args := [d1, d2, d3, d4, d5, d6, d7, d8, d9, d10] }
  | _ => none }
def FnChargeNeedsIgnoresOtherFieldsWrongFalsely : Prop := fnChargeNeedsIgnoresOtherFieldsRow.holds Try.pinned (OpenSpec.ofChange fnChargeNeedsIgnoresOtherFieldsWrong)

end Rows
end Go.Proofs.Qxb6001763a

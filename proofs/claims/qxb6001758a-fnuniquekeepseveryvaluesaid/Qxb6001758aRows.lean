/-
  No cell of these rows narrows 'for every input' (looked for: loops, veiled, ifaces, maps, wideKeys, modest, calm, conditions, laid).
  DERIVED. THE GIVEN ROWS OF THIS SEAT. 5 by the template 'for every input the law returns true; each argument reads behind the call as it read before'; 0 by the template 'total and deterministic' (their statements: Qxb6001758aTotals.lean).
  GIVEN WITH THE SEED: the statements are not yours to turn. If you find one false, say at which input.
  Laid BY PROGRAM, IN A SANDBOX (cutbox-rows.mjs): the forced cells as the released guide's own fill.sh prints them over the translation 0b70c0b6fae22fd7… (all of the seat's roots in one cut). By AI agents, Wed Nov 11 2026. No macro, syntax, notation, axiom, sorry.
-/
import Derived.Test.Qxb6001758aChecked
import GoSem.Claim
import GoSem.ClaimJoined
import GoSem.ClaimMapViews
import Derived.JoinedTies
import Derived.KernelRfl
namespace Go.Proofs.Qxb6001758a
/- THE CELL 'sum', in the pinned program and in every row, IS THE sha256 OF THE DUMP (.gsa) THAT Qxb6001758aProg.lean LOADS. Nothing in Lean hashes anything: it is a label: what it is worth is what the hold of that sum in a sandbox is worth. -/
noncomputable def Try.pinned : Pinned := { name := "qxb6001758a", sum := "0b70c0b6fae22fd78f64e01b19cea33fa9e07a88850304e9a22d0211656b0599", checked := Try.checked }
namespace Rows
def none {H : Type} : Left H := { results := [], args := [] }

/-- 'zzlaws_root_b1.FnUniqueMatchesModel': WHATEVER THE INPUT: true; the input reads as it did. -/
def fnUniqueMatchesModelSpec : ChangeSpec := { name := "fnUniqueMatchesModel", fn := fun _ => fun
  | [d1, d2, d3] => { results := [.lit (.bool true)], args := [d1, d2, d3] }
  | _ => none }
def fnUniqueMatchesModelRow : OpenClaim := { program := "qxb6001758a", sum := "0b70c0b6fae22fd78f64e01b19cea33fa9e07a88850304e9a22d0211656b0599", func := "example.com/leaf/leaf/zzlaws_root_b1.FnUniqueMatchesModel", spec := "fnUniqueMatchesModel", apart := false }
def FnUniqueMatchesModelSaid : Prop := fnUniqueMatchesModelRow.holds Try.pinned (OpenSpec.ofChange fnUniqueMatchesModelSpec)

/-- ITS FALSE NEIGHBOUR: 'it returns false'. Refute it at one input. -/
def fnUniqueMatchesModelWrong : ChangeSpec := { name := "fnUniqueMatchesModel", fn := fun _ => fun
  | [d1, d2, d3] => { results := [.lit (.bool false)], args := [d1, d2, d3] }
  | _ => none }
def FnUniqueMatchesModelWrongFalsely : Prop := fnUniqueMatchesModelRow.holds Try.pinned (OpenSpec.ofChange fnUniqueMatchesModelWrong)

/-- 'zzlaws_root_b1.FnUniqueIdempotent': WHATEVER THE INPUT: true; the input reads as it did. -/
def fnUniqueIdempotentSpec : ChangeSpec := { name := "fnUniqueIdempotent", fn := fun _ => fun
  | [d1, d2, d3] => { results := [.lit (.bool true)], args := [d1, d2, d3] }
  | _ => none }
def fnUniqueIdempotentRow : OpenClaim := { program := "qxb6001758a", sum := "0b70c0b6fae22fd78f64e01b19cea33fa9e07a88850304e9a22d0211656b0599", func := "example.com/leaf/leaf/zzlaws_root_b1.FnUniqueIdempotent", spec := "fnUniqueIdempotent", apart := false }
def FnUniqueIdempotentSaid : Prop := fnUniqueIdempotentRow.holds Try.pinned (OpenSpec.ofChange fnUniqueIdempotentSpec)

/-- ITS FALSE NEIGHBOUR: 'it returns false'. Refute it at one input. -/
def fnUniqueIdempotentWrong : ChangeSpec := { name := "fnUniqueIdempotent", fn := fun _ => fun
  | [d1, d2, d3] => { results := [.lit (.bool false)], args := [d1, d2, d3] }
  | _ => none }
def FnUniqueIdempotentWrongFalsely : Prop := fnUniqueIdempotentRow.holds Try.pinned (OpenSpec.ofChange fnUniqueIdempotentWrong)

/-- 'zzlaws_root_b1.FnUniqueKeepsEveryValue': WHATEVER THE INPUT: true; the input reads as it did. -/
def fnUniqueKeepsEveryValueSpec : ChangeSpec := { name := "fnUniqueKeepsEveryValue", fn := fun _ => fun
  | [d1, d2, d3] => { results := [.lit (.bool true)], args := [d1, d2, d3] }
  | _ => none }
def fnUniqueKeepsEveryValueRow : OpenClaim := { program := "qxb6001758a", sum := "0b70c0b6fae22fd78f64e01b19cea33fa9e07a88850304e9a22d0211656b0599", func := "example.com/leaf/leaf/zzlaws_root_b1.FnUniqueKeepsEveryValue", spec := "fnUniqueKeepsEveryValue", apart := false }
def FnUniqueKeepsEveryValueSaid : Prop := fnUniqueKeepsEveryValueRow.holds Try.pinned (OpenSpec.ofChange fnUniqueKeepsEveryValueSpec)

/-- ITS FALSE NEIGHBOUR: 'it returns false'. Refute it at one input. -/
def fnUniqueKeepsEveryValueWrong : ChangeSpec := { name := "fnUniqueKeepsEveryValue", fn := fun _ => fun
  | [d1, d2, d3] => { results := [.lit (.bool false)], args := [d1, d2, d3] }
  | _ => none }
def FnUniqueKeepsEveryValueWrongFalsely : Prop := fnUniqueKeepsEveryValueRow.holds Try.pinned (OpenSpec.ofChange fnUniqueKeepsEveryValueWrong)

/-- 'zzlaws_root_b1.FnPlaceWithinStanza': WHATEVER THE INPUT: true; the input reads as it did. -/
def fnPlaceWithinStanzaSpec : ChangeSpec := { name := "fnPlaceWithinStanza", fn := fun _ => fun
  | [d1, d2, d3, d4, d5] => { results := [.lit (.bool true)], args := [d1, d2, d3, d4, d5] }
  | _ => none }
def fnPlaceWithinStanzaRow : OpenClaim := { program := "qxb6001758a", sum := "0b70c0b6fae22fd78f64e01b19cea33fa9e07a88850304e9a22d0211656b0599", func := "example.com/leaf/leaf/zzlaws_root_b1.FnPlaceWithinStanza", spec := "fnPlaceWithinStanza", apart := false }
def FnPlaceWithinStanzaSaid : Prop := fnPlaceWithinStanzaRow.holds Try.pinned (OpenSpec.ofChange fnPlaceWithinStanzaSpec)

/-- ITS FALSE NEIGHBOUR: 'it returns false'. Refute it at one input. -/
def fnPlaceWithinStanzaWrong : ChangeSpec := { name := "fnPlaceWithinStanza", fn := fun _ => fun
  | [d1, d2, d3, d4, d5] => { results := [.lit (.bool false)], args := [d1, d2, d3, d4, d5] }
  | _ => none }
def FnPlaceWithinStanzaWrongFalsely : Prop := fnPlaceWithinStanzaRow.holds Try.pinned (OpenSpec.ofChange fnPlaceWithinStanzaWrong)

/-- 'zzlaws_root_b1.FnPlaceAfterLivingFieldsBefore': WHATEVER THE INPUT: true; the input reads as it did. -/
def fnPlaceAfterLivingFieldsBeforeSpec : ChangeSpec := { name := "fnPlaceAfterLivingFieldsBefore", fn := fun _ => fun
  | [d1, d2, d3, d4] => { results := [.lit (.bool true)], args := [d1, d2, d3, d4] }
  | _ => none }
def fnPlaceAfterLivingFieldsBeforeRow : OpenClaim := { program := "qxb6001758a", sum := "0b70c0b6fae22fd78f64e01b19cea33fa9e07a88850304e9a22d0211656b0599", func := "example.com/leaf/leaf/zzlaws_root_b1.FnPlaceAfterLivingFieldsBefore", spec := "fnPlaceAfterLivingFieldsBefore", apart := false }
def FnPlaceAfterLivingFieldsBeforeSaid : Prop := fnPlaceAfterLivingFieldsBeforeRow.holds Try.pinned (OpenSpec.ofChange fnPlaceAfterLivingFieldsBeforeSpec)

/-- ITS FALSE NEIGHBOUR: 'it returns false'. Refute it at one input. -/
def fnPlaceAfterLivingFieldsBeforeWrong : ChangeSpec := { name := "fnPlaceAfterLivingFieldsBefore", fn := fun _ => fun
  | [d1, d2, d3, d4] => { results := [.lit (.bool false)], args := [d1, d2, d3, d4] }
  | _ => none }
def FnPlaceAfterLivingFieldsBeforeWrongFalsely : Prop := fnPlaceAfterLivingFieldsBeforeRow.holds Try.pinned (OpenSpec.ofChange fnPlaceAfterLivingFieldsBeforeWrong)

end Rows
end Go.Proofs.Qxb6001758a

/-
  No cell of these rows narrows 'for every input' (looked for: loops, veiled, ifaces, maps, wideKeys, modest, calm, conditions, laid).
  DERIVED. THE GIVEN ROWS OF THIS SEAT. 3 by the template 'for every input the law returns true; each argument reads behind the call as it read before'; 0 by the template 'total and deterministic' (their statements: Qxb6600758aTotals.lean).
  GIVEN WITH THE SEED: the statements are not yours to turn. If you find one false, say at which input.
  Laid BY PROGRAM, IN A SANDBOX (cutbox-rows.mjs): the forced cells as the released guide's own fill.sh prints them over the translation 8438af621f8430fa… (all of the seat's roots in one cut). By AI agents, Wed Nov 11 2026. No macro, syntax, notation, axiom, sorry.
-/
import Derived.Test.Qxb6600758aChecked
import GoSem.Claim
import GoSem.ClaimJoined
import GoSem.ClaimMapViews
import Derived.JoinedTies
import Derived.KernelRfl
namespace Go.Proofs.Qxb6600758a
/- THE CELL 'sum', in the pinned program and in every row, IS THE sha256 OF THE DUMP (.gsa) THAT Qxb6600758aProg.lean LOADS. Nothing in Lean hashes anything: it is a label: what it is worth is what the hold of that sum in a sandbox is worth. -/
noncomputable def Try.pinned : Pinned := { name := "qxb6600758a", sum := "8438af621f8430fa4a4478454bb84d19f77d81584c292ab69e8c94f2ce1ee1bf", checked := Try.checked }
namespace Rows
def none {H : Type} : Left H := { results := [], args := [] }

/-- 'zzlaws_internal_procs_b1.FnNextSteadyWantClosedForm': WHATEVER THE INPUT: true; the input reads as it did. -/
def fnNextSteadyWantClosedFormSpec : ChangeSpec := { name := "fnNextSteadyWantClosedForm", fn := fun _ => fun
  | [d1, d2, d3] => { results := [.lit (.bool true)], args := [d1, d2, d3] }
  | _ => none }
def fnNextSteadyWantClosedFormRow : OpenClaim := { program := "qxb6600758a", sum := "8438af621f8430fa4a4478454bb84d19f77d81584c292ab69e8c94f2ce1ee1bf", func := "example.com/splitrail/splitrail/zzlaws_internal_procs_b1.FnNextSteadyWantClosedForm", spec := "fnNextSteadyWantClosedForm", apart := false }
def FnNextSteadyWantClosedFormSaid : Prop := fnNextSteadyWantClosedFormRow.holds Try.pinned (OpenSpec.ofChange fnNextSteadyWantClosedFormSpec)

/-- ITS FALSE NEIGHBOUR: 'it returns false'. Refute it at one input. -/
def fnNextSteadyWantClosedFormWrong : ChangeSpec := { name := "fnNextSteadyWantClosedForm", fn := fun _ => fun
  | [d1, d2, d3] => { results := [.lit (.bool false)], args := [d1, d2, d3] }
  | _ => none }
def FnNextSteadyWantClosedFormWrongFalsely : Prop := fnNextSteadyWantClosedFormRow.holds Try.pinned (OpenSpec.ofChange fnNextSteadyWantClosedFormWrong)

/-- 'zzlaws_internal_procs_b1.FnNextMonotoneInWant': WHATEVER THE INPUT: true; the input reads as it did. -/
def fnNextMonotoneInWantSpec : ChangeSpec := { name := "fnNextMonotoneInWant", fn := fun _ => fun
  | [d1, d2, d3, d4] => { results := [.lit (.bool true)], args := [d1, d2, d3, d4] }
  | _ => none }
def fnNextMonotoneInWantRow : OpenClaim := { program := "qxb6600758a", sum := "8438af621f8430fa4a4478454bb84d19f77d81584c292ab69e8c94f2ce1ee1bf", func := "example.com/splitrail/splitrail/zzlaws_internal_procs_b1.FnNextMonotoneInWant", spec := "fnNextMonotoneInWant", apart := false }
def FnNextMonotoneInWantSaid : Prop := fnNextMonotoneInWantRow.holds Try.pinned (OpenSpec.ofChange fnNextMonotoneInWantSpec)

/-- ITS FALSE NEIGHBOUR: 'it returns false'. Refute it at one input. -/
def fnNextMonotoneInWantWrong : ChangeSpec := { name := "fnNextMonotoneInWant", fn := fun _ => fun
  | [d1, d2, d3, d4] => { results := [.lit (.bool false)], args := [d1, d2, d3, d4] }
  | _ => none }
def FnNextMonotoneInWantWrongFalsely : Prop := fnNextMonotoneInWantRow.holds Try.pinned (OpenSpec.ofChange fnNextMonotoneInWantWrong)

/-- 'zzlaws_internal_procs_b1.FnNextScriptBounds': WHATEVER THE INPUT: true; the input reads as it did. -/
def fnNextScriptBoundsSpec : ChangeSpec := { name := "fnNextScriptBounds", fn := fun _ => fun
  | [d1, d2] => { results := [.lit (.bool true)], args := [d1, d2] }
  | _ => none }
def fnNextScriptBoundsRow : OpenClaim := { program := "qxb6600758a", sum := "8438af621f8430fa4a4478454bb84d19f77d81584c292ab69e8c94f2ce1ee1bf", func := "example.com/splitrail/splitrail/zzlaws_internal_procs_b1.FnNextScriptBounds", spec := "fnNextScriptBounds", apart := false }
def FnNextScriptBoundsSaid : Prop := fnNextScriptBoundsRow.holds Try.pinned (OpenSpec.ofChange fnNextScriptBoundsSpec)

/-- ITS FALSE NEIGHBOUR: 'it returns false'. Refute it at one input. -/
def fnNextScriptBoundsWrong : ChangeSpec := { name := "fnNextScriptBounds", fn := fun _ => fun
  | [d1, d2] => { results := [.lit (.bool false)], args := [d1, d2] }
  | _ => none }
def FnNextScriptBoundsWrongFalsely : Prop := fnNextScriptBoundsRow.holds Try.pinned (OpenSpec.ofChange fnNextScriptBoundsWrong)

end Rows
end Go.Proofs.Qxb6600758a

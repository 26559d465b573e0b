/-
  No cell of these rows narrows 'for every input' (looked for: loops, veiled, ifaces, maps, wideKeys, modest, calm, conditions, laid).
  DERIVED. THE GIVEN ROWS OF THIS SEAT. 1 by the template 'for every input the law returns true; each argument reads behind the call as it read before'; 0 by the template 'total and deterministic' (their statements: Qxb6600728aTotals.lean).
  GIVEN WITH THE SEED: the statements are not yours to turn. If you find one false, say at which input.
  Laid BY PROGRAM, IN A SANDBOX (cutbox-rows.mjs): the forced cells as the released guide's own fill.sh prints them over the translation 5c22bfbddc2fc332… (all of the seat's roots in one cut). By AI agents, Wed Nov 11 2026. No macro, syntax, notation, axiom, sorry.
-/
import Derived.Test.Qxb6600728aChecked
import GoSem.Claim
import GoSem.ClaimJoined
import GoSem.ClaimMapViews
import Derived.JoinedTies
import Derived.KernelRfl
namespace Go.Proofs.Qxb6600728a
/- THE CELL 'sum', in the pinned program and in every row, IS THE sha256 OF THE DUMP (.gsa) THAT Qxb6600728aProg.lean LOADS. Nothing in Lean hashes anything: it is a label: what it is worth is what the hold of that sum in a sandbox is worth. -/
noncomputable def Try.pinned : Pinned := { name := "qxb6600728a", sum := "5c22bfbddc2fc332a813ee4ea175955265755bcb3072a0e76884d98faee9738c", checked := Try.checked }
namespace Rows
def none {H : Type} : Left H := { results := [], args := [] }

/-- 'zzlaws_internal_metrics_b1.FnFamilyHeadersParseBack': WHATEVER THE INPUT: true; the input reads as it did. -/
def fnFamilyHeadersParseBackSpec : ChangeSpec := { name := "fnFamilyHeadersParseBack", fn := fun _ => fun
  | [d1, d2, d3, d4, d5, d6] => { results := [.lit (.bool true)], args := [d1, d2, d3, d4, d5, d6] }
  | _ => none }
def fnFamilyHeadersParseBackRow : OpenClaim := { program := "qxb6600728a", sum := "5c22bfbddc2fc332a813ee4ea175955265755bcb3072a0e76884d98faee9738c", func := "example.com/hashmortar/hashmortar/zzlaws_internal_metrics_b1.FnFamilyHeadersParseBack", spec := "fnFamilyHeadersParseBack", apart := false }
def FnFamilyHeadersParseBackSaid : Prop := fnFamilyHeadersParseBackRow.holds Try.pinned (OpenSpec.ofChange fnFamilyHeadersParseBackSpec)

/-- ITS FALSE NEIGHBOUR: 'it returns false'. Refute it at one input. -/
def fnFamilyHeadersParseBackWrong : ChangeSpec := { name := "fnFamilyHeadersParseBack", fn := fun _ => fun
  | [d1, d2, d3, d4, d5, d6] => { results := [.lit (.bool false)], args := [d1, d2, d3, d4, d5, d6] }
  | _ => none }
def FnFamilyHeadersParseBackWrongFalsely : Prop := fnFamilyHeadersParseBackRow.holds Try.pinned (OpenSpec.ofChange fnFamilyHeadersParseBackWrong)

end Rows
end Go.Proofs.Qxb6600728a

/-
  No cell of these rows narrows 'for every input' (looked for: loops, veiled, ifaces, maps, wideKeys, modest, calm, conditions, laid).
  DERIVED. THE GIVEN ROWS OF THIS SEAT. 2 by the template 'for every input the law returns true; each argument reads behind the call as it read before'; 0 by the template 'total and deterministic' (their statements: Qxb6604383aTotals.lean).
  GIVEN WITH THE SEED: the statements are not yours to turn. If you find one false, say at which input.
  Laid BY PROGRAM, IN A SANDBOX (cutbox-rows.mjs): the forced cells as the released guide's own fill.sh prints them over the translation b713c5a85cfe7090… (all of the seat's roots in one cut). By AI agents, Wed Nov 11 2026. No macro, syntax, notation, axiom, sorry.
-/
import Derived.Test.Qxb6604383aChecked
import GoSem.Claim
import GoSem.ClaimJoined
import GoSem.ClaimMapViews
import Derived.JoinedTies
import Derived.KernelRfl
namespace Go.Proofs.Qxb6604383a
/- THE CELL 'sum', in the pinned program and in every row, IS THE sha256 OF THE DUMP (.gsa) THAT Qxb6604383aProg.lean LOADS. Nothing in Lean hashes anything: it is a label: what it is worth is what the hold of that sum in a sandbox is worth. -/
noncomputable def Try.pinned : Pinned := { name := "qxb6604383a", sum := "b713c5a85cfe709012a74ac1bf8a72b841498d745c99410526828922bf7283c5", checked := Try.checked }
namespace Rows
def none {H : Type} : Left H := { results := [], args := [] }

/-- 'zzlaws_ber_b1.FnBoolOctetsMatchX690': WHATEVER THE INPUT: true; the input reads as it did. -/
def fnBoolOctetsMatchX690Spec : ChangeSpec := { name := "fnBoolOctetsMatchX690", fn := fun _ => fun
  | [d1, d2] => { results := [.lit (.bool true)], args := [d1, d2] }
  | _ => none }
def fnBoolOctetsMatchX690Row : OpenClaim := { program := "qxb6604383a", sum := "b713c5a85cfe709012a74ac1bf8a72b841498d745c99410526828922bf7283c5", func := "example.com/portwarden/portwarden/zzlaws_ber_b1.FnBoolOctetsMatchX690", spec := "fnBoolOctetsMatchX690", apart := false }
def FnBoolOctetsMatchX690Said : Prop := fnBoolOctetsMatchX690Row.holds Try.pinned (OpenSpec.ofChange fnBoolOctetsMatchX690Spec)

/-- ITS FALSE NEIGHBOUR: 'it returns false'. Refute it at one input. -/
def fnBoolOctetsMatchX690Wrong : ChangeSpec := { name := "fnBoolOctetsMatchX690", fn := fun _ => fun
  | [d1, d2] => { results := [.lit (.bool false)], args := [d1, d2] }
  | _ => none }
def FnBoolOctetsMatchX690WrongFalsely : Prop := fnBoolOctetsMatchX690Row.holds Try.pinned (OpenSpec.ofChange fnBoolOctetsMatchX690Wrong)

/-- 'zzlaws_ber_b1.FnContextEncodingsAreDistinct': WHATEVER THE INPUT: true; the input reads as it did. -/
def fnContextEncodingsAreDistinctSpec : ChangeSpec := { name := "fnContextEncodingsAreDistinct", fn := fun _ => fun
  | [d1, d2, d3] => { results := [.lit (.bool true)], args := [d1, d2, d3] }
  | _ => none }
def fnContextEncodingsAreDistinctRow : OpenClaim := { program := "qxb6604383a", sum := "b713c5a85cfe709012a74ac1bf8a72b841498d745c99410526828922bf7283c5", func := "example.com/portwarden/portwarden/zzlaws_ber_b1.FnContextEncodingsAreDistinct", spec := "fnContextEncodingsAreDistinct", apart := false }
def FnContextEncodingsAreDistinctSaid : Prop := fnContextEncodingsAreDistinctRow.holds Try.pinned (OpenSpec.ofChange fnContextEncodingsAreDistinctSpec)

/-- ITS FALSE NEIGHBOUR: 'it returns false'. Refute it at one input. -/
def fnContextEncodingsAreDistinctWrong : ChangeSpec := { name := "fnContextEncodingsAreDistinct", fn := fun _ => fun
  | [d1, d2, d3] => { results := [.lit (.bool false)], args := [d1, d2, d3] }
  | _ => none }
def FnContextEncodingsAreDistinctWrongFalsely : Prop := fnContextEncodingsAreDistinctRow.holds Try.pinned (OpenSpec.ofChange fnContextEncodingsAreDistinctWrong)

end Rows
end Go.Proofs.Qxb6604383a

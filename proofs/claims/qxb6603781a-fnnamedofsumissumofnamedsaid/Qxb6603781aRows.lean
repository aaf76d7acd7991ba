/-
  No cell of these rows narrows 'for every input' (looked for: loops, veiled, ifaces, maps, wideKeys, modest, calm, conditions, laid).
  DERIVED. THE GIVEN ROWS OF THIS SEAT. 2 by the template 'for every input the law returns true; each argument reads behind the call as it read before'; 0 by the template 'total and deterministic' (their statements: Qxb6603781aTotals.lean).
  GIVEN WITH THE SEED: the statements are not yours to turn. If you find one false, say at which input.
  Laid BY PROGRAM, IN A SANDBOX (cutbox-rows.mjs): the forced cells as the released guide's own fill.sh prints them over the translation 3f85d767eaef8ea4… (all of the seat's roots in one cut). By AI agents, Wed Nov 11 2026. No macro, syntax, notation, axiom, sorry.
-/
import Derived.Test.Qxb6603781aChecked
import GoSem.Claim
import GoSem.ClaimJoined
import GoSem.ClaimMapViews
import Derived.JoinedTies
import Derived.KernelRfl
namespace Go.Proofs.Qxb6603781a
/- THE CELL 'sum', in the pinned program and in every row, IS THE sha256 OF THE DUMP (.gsa) THAT Qxb6603781aProg.lean LOADS. Nothing in Lean hashes anything: it is a label: what it is worth is what the hold of that sum in a sandbox is worth. -/
noncomputable def Try.pinned : Pinned := { name := "qxb6603781a", sum := "3f85d767eaef8ea4f0ad6be152b9b808a3a847aac7d09045575841e6edb02aaf", checked := Try.checked }
namespace Rows
def none {H : Type} : Left H := { results := [], args := [] }

/-- 'zzlaws_internal_sim_b1.FnNamedOfSumIsSumOfNamed': WHATEVER THE INPUT: true; the input reads as it did. -/
def fnNamedOfSumIsSumOfNamedSpec : ChangeSpec := { name := "fnNamedOfSumIsSumOfNamed", fn := fun _ => fun
  | [d1, d2] => { results := [.lit (.bool true)], args := [d1, d2] }
  | _ => none }
def fnNamedOfSumIsSumOfNamedRow : OpenClaim := { program := "qxb6603781a", sum := "3f85d767eaef8ea4f0ad6be152b9b808a3a847aac7d09045575841e6edb02aaf", func := "example.com/tenure/zzlaws_internal_sim_b1.FnNamedOfSumIsSumOfNamed", spec := "fnNamedOfSumIsSumOfNamed", apart := false }
def FnNamedOfSumIsSumOfNamedSaid : Prop := fnNamedOfSumIsSumOfNamedRow.holds Try.pinned (OpenSpec.ofChange fnNamedOfSumIsSumOfNamedSpec)

/-- ITS FALSE NEIGHBOUR: 'it returns false'. Refute it at one input. -/
def fnNamedOfSumIsSumOfNamedWrong : ChangeSpec := { name := "fnNamedOfSumIsSumOfNamed", fn := fun _ => fun
  | [d1, d2] => { results := [.lit (.bool false)], args := [d1, d2] }
  | _ => none }
def FnNamedOfSumIsSumOfNamedWrongFalsely : Prop := fnNamedOfSumIsSumOfNamedRow.holds Try.pinned (OpenSpec.ofChange fnNamedOfSumIsSumOfNamedWrong)

/-- 'zzlaws_internal_sim_b1.FnAddIsFieldwiseSum': WHATEVER THE INPUT: true; the input reads as it did. -/
def fnAddIsFieldwiseSumSpec : ChangeSpec := { name := "fnAddIsFieldwiseSum", fn := fun _ => fun
  | [d1, d2] => { results := [.lit (.bool true)], args := [d1, d2] }
  | _ => none }
def fnAddIsFieldwiseSumRow : OpenClaim := { program := "qxb6603781a", sum := "3f85d767eaef8ea4f0ad6be152b9b808a3a847aac7d09045575841e6edb02aaf", func := "example.com/tenure/zzlaws_internal_sim_b1.FnAddIsFieldwiseSum", spec := "fnAddIsFieldwiseSum", apart := false }
def FnAddIsFieldwiseSumSaid : Prop := fnAddIsFieldwiseSumRow.holds Try.pinned (OpenSpec.ofChange fnAddIsFieldwiseSumSpec)

/-- ITS FALSE NEIGHBOUR: 'it returns false'. Refute it at one input. -/
def fnAddIsFieldwiseSumWrong : ChangeSpec := { name := "fnAddIsFieldwiseSum", fn := fun _ => fun
  | [d1, d2] => { results := [.lit (.bool false)], args := [d1, d2] }
  | _ => none }
def FnAddIsFieldwiseSumWrongFalsely : Prop := fnAddIsFieldwiseSumRow.holds Try.pinned (OpenSpec.ofChange fnAddIsFieldwiseSumWrong)

end Rows
end Go.Proofs.Qxb6603781a

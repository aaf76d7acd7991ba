/-
  No cell of these rows narrows 'for every input' (looked for: loops, veiled, ifaces, maps, wideKeys, modest, calm, conditions, laid).
  DERIVED. THE GIVEN ROWS OF THIS SEAT. 5 by the template 'for every input the law returns true; each argument reads behind the call as it read before'; 0 by the template 'total and deterministic' (their statements: Qxb6604376aTotals.lean).
  GIVEN WITH THE SEED: the statements are not yours to turn. If you find one false, say at which input.
  Laid BY PROGRAM, IN A SANDBOX (cutbox-rows.mjs): the forced cells as the released guide's own fill.sh prints them over the translation 4bd257a582b42e86… (all of the seat's roots in one cut). By AI agents, Wed Nov 11 2026. No macro, syntax, notation, axiom, sorry.
-/
import Derived.Test.Qxb6604376aChecked
import GoSem.Claim
import GoSem.ClaimJoined
import GoSem.ClaimMapViews
import Derived.JoinedTies
import Derived.KernelRfl
namespace Go.Proofs.Qxb6604376a
/- THE CELL 'sum', in the pinned program and in every row, IS THE sha256 OF THE DUMP (.gsa) THAT Qxb6604376aProg.lean LOADS. Nothing in Lean hashes anything: it is a label: what it is worth is what the hold of that sum in a sandbox is worth. -/
noncomputable def Try.pinned : Pinned := { name := "qxb6604376a", sum := "4bd257a582b42e8614a3132a244cd4140aae7eb3574a9c91b0308abce4be6124", checked := Try.checked }
namespace Rows
def none {H : Type} : Left H := { results := [], args := [] }

/-- 'zzlaws_pkg_channel_b1.FnJoinNamesSplitsBack': WHATEVER THE INPUT: true; the input reads as it did. -/
def fnJoinNamesSplitsBackSpec : ChangeSpec := { name := "fnJoinNamesSplitsBack", fn := fun _ => fun
  | [d] => { results := [.lit (.bool true)], args := [d] }
  | _ => none }
def fnJoinNamesSplitsBackRow : OpenClaim := { program := "qxb6604376a", sum := "4bd257a582b42e8614a3132a244cd4140aae7eb3574a9c91b0308abce4be6124", func := "example.com/rollcast/rollcast/zzlaws_pkg_channel_b1.FnJoinNamesSplitsBack", spec := "fnJoinNamesSplitsBack", inPlace := ["internal/abi.NoEscape", "internal/bytealg.MakeNoZero"], apart := false }
def FnJoinNamesSplitsBackSaid : Prop := fnJoinNamesSplitsBackRow.holds Try.pinned (OpenSpec.ofChange fnJoinNamesSplitsBackSpec)

/-- ITS FALSE NEIGHBOUR: 'it returns false'. Refute it at one input. -/
def fnJoinNamesSplitsBackWrong : ChangeSpec := { name := "fnJoinNamesSplitsBack", fn := fun _ => fun
  | [d] => { results := [.lit (.bool false)], args := [d] }
  | _ => none }
def FnJoinNamesSplitsBackWrongFalsely : Prop := fnJoinNamesSplitsBackRow.holds Try.pinned (OpenSpec.ofChange fnJoinNamesSplitsBackWrong)

/-- 'zzlaws_pkg_channel_b1.FnJoinNamesTellsListsApart': WHATEVER THE INPUT: true; the input reads as it did. -/
def fnJoinNamesTellsListsApartSpec : ChangeSpec := { name := "fnJoinNamesTellsListsApart", fn := fun _ => fun
  | [d1, d2] => { results := [.lit (.bool true)], args := [d1, d2] }
  | _ => none }
def fnJoinNamesTellsListsApartRow : OpenClaim := { program := "qxb6604376a", sum := "4bd257a582b42e8614a3132a244cd4140aae7eb3574a9c91b0308abce4be6124", func := "example.com/rollcast/rollcast/zzlaws_pkg_channel_b1.FnJoinNamesTellsListsApart", spec := "fnJoinNamesTellsListsApart", inPlace := ["internal/abi.NoEscape", "internal/bytealg.MakeNoZero"], apart := false }
def FnJoinNamesTellsListsApartSaid : Prop := fnJoinNamesTellsListsApartRow.holds Try.pinned (OpenSpec.ofChange fnJoinNamesTellsListsApartSpec)

/-- ITS FALSE NEIGHBOUR: 'it returns false'. Refute it at one input. -/
def fnJoinNamesTellsListsApartWrong : ChangeSpec := { name := "fnJoinNamesTellsListsApart", fn := fun _ => fun
  | [d1, d2] => { results := [.lit (.bool false)], args := [d1, d2] }
  | _ => none }
def FnJoinNamesTellsListsApartWrongFalsely : Prop := fnJoinNamesTellsListsApartRow.holds Try.pinned (OpenSpec.ofChange fnJoinNamesTellsListsApartWrong)

/-- 'zzlaws_pkg_channel_b1.FnItemsBelowCountsItemStarts': WHATEVER THE INPUT: true; the input reads as it did. -/
def fnItemsBelowCountsItemStartsSpec : ChangeSpec := { name := "fnItemsBelowCountsItemStarts", fn := fun _ => fun
  | [d1, d2, d3, d4, d5] => { results := [.lit (.bool true)], args := [d1, d2, d3, d4, d5] }
  | _ => none }
def fnItemsBelowCountsItemStartsRow : OpenClaim := { program := "qxb6604376a", sum := "4bd257a582b42e8614a3132a244cd4140aae7eb3574a9c91b0308abce4be6124", func := "example.com/rollcast/rollcast/zzlaws_pkg_channel_b1.FnItemsBelowCountsItemStarts", spec := "fnItemsBelowCountsItemStarts", apart := false }
def FnItemsBelowCountsItemStartsSaid : Prop := fnItemsBelowCountsItemStartsRow.holds Try.pinned (OpenSpec.ofChange fnItemsBelowCountsItemStartsSpec)

/-- ITS FALSE NEIGHBOUR: 'it returns false'. Refute it at one input. -/
def fnItemsBelowCountsItemStartsWrong : ChangeSpec := { name := "fnItemsBelowCountsItemStarts", fn := fun _ => fun
  | [d1, d2, d3, d4, d5] => { results := [.lit (.bool false)], args := [d1, d2, d3, d4, d5] }
  | _ => none }
def FnItemsBelowCountsItemStartsWrongFalsely : Prop := fnItemsBelowCountsItemStartsRow.holds Try.pinned (OpenSpec.ofChange fnItemsBelowCountsItemStartsWrong)

/-- 'zzlaws_pkg_channel_b1.FnItemsBelowLapsAndSteps': WHATEVER THE INPUT: true; the input reads as it did. -/
def fnItemsBelowLapsAndStepsSpec : ChangeSpec := { name := "fnItemsBelowLapsAndSteps", fn := fun _ => fun
  | [d1, d2, d3, d4, d5] => { results := [.lit (.bool true)], args := [d1, d2, d3, d4, d5] }
  | _ => none }
def fnItemsBelowLapsAndStepsRow : OpenClaim := { program := "qxb6604376a", sum := "4bd257a582b42e8614a3132a244cd4140aae7eb3574a9c91b0308abce4be6124", func := "example.com/rollcast/rollcast/zzlaws_pkg_channel_b1.FnItemsBelowLapsAndSteps", spec := "fnItemsBelowLapsAndSteps", apart := false }
def FnItemsBelowLapsAndStepsSaid : Prop := fnItemsBelowLapsAndStepsRow.holds Try.pinned (OpenSpec.ofChange fnItemsBelowLapsAndStepsSpec)

/-- ITS FALSE NEIGHBOUR: 'it returns false'. Refute it at one input. -/
def fnItemsBelowLapsAndStepsWrong : ChangeSpec := { name := "fnItemsBelowLapsAndSteps", fn := fun _ => fun
  | [d1, d2, d3, d4, d5] => { results := [.lit (.bool false)], args := [d1, d2, d3, d4, d5] }
  | _ => none }
def FnItemsBelowLapsAndStepsWrongFalsely : Prop := fnItemsBelowLapsAndStepsRow.holds Try.pinned (OpenSpec.ofChange fnItemsBelowLapsAndStepsWrong)

/-- 'zzlaws_pkg_channel_b1.FnSetListIgnoresWhatFollowsSeriesRepeat': WHATEVER THE INPUT: true; the input reads as it did. -/
def fnSetListIgnoresWhatFollowsSeriesRepeatSpec : ChangeSpec := { name := "fnSetListIgnoresWhatFollowsSeriesRepeat", fn := fun _ => fun
  | [d1, d2] => { results := [.lit (.bool true)], args := [d1, d2] }
  | _ => none }
def fnSetListIgnoresWhatFollowsSeriesRepeatRow : OpenClaim := { program := "qxb6604376a", sum := "4bd257a582b42e8614a3132a244cd4140aae7eb3574a9c91b0308abce4be6124", func := "example.com/rollcast/rollcast/zzlaws_pkg_channel_b1.FnSetListIgnoresWhatFollowsSeriesRepeat", spec := "fnSetListIgnoresWhatFollowsSeriesRepeat", unfollowed := true, recurses := true, apart := false }
def FnSetListIgnoresWhatFollowsSeriesRepeatSaid : Prop := fnSetListIgnoresWhatFollowsSeriesRepeatRow.holds Try.pinned (OpenSpec.ofChange fnSetListIgnoresWhatFollowsSeriesRepeatSpec)

/-- ITS FALSE NEIGHBOUR: 'it returns false'. Refute it at one input. -/
def fnSetListIgnoresWhatFollowsSeriesRepeatWrong : ChangeSpec := { name := "fnSetListIgnoresWhatFollowsSeriesRepeat", fn := fun _ => fun
  | [d1, d2] => { results := [.lit (.bool false)], args := [d1, d2] }
  | _ => none }
def FnSetListIgnoresWhatFollowsSeriesRepeatWrongFalsely : Prop := fnSetListIgnoresWhatFollowsSeriesRepeatRow.holds Try.pinned (OpenSpec.ofChange fnSetListIgnoresWhatFollowsSeriesRepeatWrong)

end Rows
end Go.Proofs.Qxb6604376a

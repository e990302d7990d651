/-
  No cell of these rows narrows 'for every input' (looked for: loops, veiled, ifaces, maps, wideKeys, modest, calm, conditions, laid).
  DERIVED. THE GIVEN ROWS OF THIS SEAT. 2 by the template 'for every input the law returns true; each argument reads behind the call as it read before'; 0 by the template 'total and deterministic' (their statements: Qxb6613436aTotals.lean).
  GIVEN WITH THE SEED: the statements are not yours to turn. If you find one false, say at which input.
  Laid BY PROGRAM, IN A SANDBOX (cutbox-rows.mjs): the forced cells as the released guide's own fill.sh prints them over the translation 4501a81e5944ca2a… (all of the seat's roots in one cut). By AI agents, Wed Nov 11 2026. No macro, syntax, notation, axiom, sorry.
-/
import Derived.Test.Qxb6613436aChecked
import GoSem.Claim
import GoSem.ClaimJoined
import GoSem.ClaimMapViews
import Derived.JoinedTies
import Derived.KernelRfl
namespace Go.Proofs.Qxb6613436a
/- THE CELL 'sum', in the pinned program and in every row, IS THE sha256 OF THE DUMP (.gsa) THAT Qxb6613436aProg.lean LOADS. Nothing in Lean hashes anything: it is a label: what it is worth is what the hold of that sum in a sandbox is worth. -/
noncomputable def Try.pinned : Pinned := { name := "qxb6613436a", sum := "4501a81e5944ca2a03ebc8201f8e4410dc9489f5e41339dd20796b7b6ddaf913", checked := Try.checked }
namespace Rows
def none {H : Type} : Left H := { results := [], args := [] }

/-- 'zzlaws_internal_policy_b1.FnIsControlAndIsBlankPartitionTheLowRunes': WHATEVER THE INPUT: true; the input reads as it did. -/
def fnIsControlAndIsBlankPartitionTheLowRunesSpec : ChangeSpec := { name := "fnIsControlAndIsBlankPartitionTheLowRunes", fn := fun _ => fun
  | [d] => { results := [.lit (.bool true)], args := [d] }
  | _ => none }
def fnIsControlAndIsBlankPartitionTheLowRunesRow : OpenClaim := { program := "qxb6613436a", sum := "4501a81e5944ca2a03ebc8201f8e4410dc9489f5e41339dd20796b7b6ddaf913", func := "example.com/portcullis/portcullis/zzlaws_internal_policy_b1.FnIsControlAndIsBlankPartitionTheLowRunes", spec := "fnIsControlAndIsBlankPartitionTheLowRunes", apart := false }
def FnIsControlAndIsBlankPartitionTheLowRunesSaid : Prop := fnIsControlAndIsBlankPartitionTheLowRunesRow.holds Try.pinned (OpenSpec.ofChange fnIsControlAndIsBlankPartitionTheLowRunesSpec)

/-- ITS FALSE NEIGHBOUR: 'it returns false'. Refute it at one input. -/
def fnIsControlAndIsBlankPartitionTheLowRunesWrong : ChangeSpec := { name := "fnIsControlAndIsBlankPartitionTheLowRunes", fn := fun _ => fun
  | [d] => { results := [.lit (.bool false)], args := [d] }
  | _ => none }
def FnIsControlAndIsBlankPartitionTheLowRunesWrongFalsely : Prop := fnIsControlAndIsBlankPartitionTheLowRunesRow.holds Try.pinned (OpenSpec.ofChange fnIsControlAndIsBlankPartitionTheLowRunesWrong)

/-- 'zzlaws_internal_policy_b1.FnMembersYieldsTopInOrderAndStops': WHATEVER THE INPUT: true; the input reads as it did. -/
def fnMembersYieldsTopInOrderAndStopsSpec : ChangeSpec := { name := "fnMembersYieldsTopInOrderAndStops", fn := fun _ => fun
  | [d1, d2] => { results := [.lit (.bool true)], args := [d1, d2] }
  | _ => none }
def fnMembersYieldsTopInOrderAndStopsRow : OpenClaim := { program := "qxb6613436a", sum := "4501a81e5944ca2a03ebc8201f8e4410dc9489f5e41339dd20796b7b6ddaf913", func := "example.com/portcullis/portcullis/zzlaws_internal_policy_b1.FnMembersYieldsTopInOrderAndStops", spec := "fnMembersYieldsTopInOrderAndStops", unfollowed := true, recurses := true, apart := false }
def FnMembersYieldsTopInOrderAndStopsSaid : Prop := fnMembersYieldsTopInOrderAndStopsRow.holds Try.pinned (OpenSpec.ofChange fnMembersYieldsTopInOrderAndStopsSpec)

/-- ITS FALSE NEIGHBOUR: 'it returns false'. Refute it at one input. -/
def fnMembersYieldsTopInOrderAndStopsWrong : ChangeSpec := { name := "fnMembersYieldsTopInOrderAndStops", fn := fun _ => fun
  | [d1, d2] => { results := [.lit (.bool false)], args := [d1, d2] }
  | _ => none }
def FnMembersYieldsTopInOrderAndStopsWrongFalsely : Prop := fnMembersYieldsTopInOrderAndStopsRow.holds Try.pinned (OpenSpec.ofChange fnMembersYieldsTopInOrderAndStopsWrong)

end Rows
end Go.Proofs.Qxb6613436a

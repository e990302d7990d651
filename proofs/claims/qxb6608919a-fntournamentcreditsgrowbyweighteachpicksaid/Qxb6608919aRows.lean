/-
  No cell of these rows narrows 'for every input' (looked for: loops, veiled, ifaces, maps, wideKeys, modest, calm, conditions, laid).
  DERIVED. THE GIVEN ROWS OF THIS SEAT. 3 by the template 'for every input the law returns true; each argument reads behind the call as it read before'; 0 by the template 'total and deterministic' (their statements: Qxb6608919aTotals.lean).
  GIVEN WITH THE SEED: the statements are not yours to turn. If you find one false, say at which input.
  Laid BY PROGRAM, IN A SANDBOX (cutbox-rows.mjs): the forced cells as the released guide's own fill.sh prints them over the translation dec52a8ce3ea6999… (all of the seat's roots in one cut). By AI agents, Wed Nov 11 2026. No macro, syntax, notation, axiom, sorry.
-/
import Derived.Test.Qxb6608919aChecked
import GoSem.Claim
import GoSem.ClaimJoined
import GoSem.ClaimMapViews
import Derived.JoinedTies
import Derived.KernelRfl
namespace Go.Proofs.Qxb6608919a
/- THE CELL 'sum', in the pinned program and in every row, IS THE sha256 OF THE DUMP (.gsa) THAT Qxb6608919aProg.lean LOADS. Nothing in Lean hashes anything: it is a label: what it is worth is what the hold of that sum in a sandbox is worth. -/
noncomputable def Try.pinned : Pinned := { name := "qxb6608919a", sum := "dec52a8ce3ea69996644ac0761d2c55666a738627c78565b8e16725731909570", checked := Try.checked }
namespace Rows
def none {H : Type} : Left H := { results := [], args := [] }

/-- 'zzlaws_root_b1.FnNewLineupSplitsAtAnyCut': WHATEVER THE INPUT: true; the input reads as it did. -/
def fnNewLineupSplitsAtAnyCutSpec : ChangeSpec := { name := "fnNewLineupSplitsAtAnyCut", fn := fun _ => fun
  | [d1, d2] => { results := [.lit (.bool true)], args := [d1, d2] }
  | _ => none }
def fnNewLineupSplitsAtAnyCutRow : OpenClaim := { program := "qxb6608919a", sum := "dec52a8ce3ea69996644ac0761d2c55666a738627c78565b8e16725731909570", func := "example.com/evenkeel/evenkeel/zzlaws_root_b1.FnNewLineupSplitsAtAnyCut", spec := "fnNewLineupSplitsAtAnyCut", apart := false }
def FnNewLineupSplitsAtAnyCutSaid : Prop := fnNewLineupSplitsAtAnyCutRow.holds Try.pinned (OpenSpec.ofChange fnNewLineupSplitsAtAnyCutSpec)

/-- ITS FALSE NEIGHBOUR: 'it returns false'. Refute it at one input. -/
def fnNewLineupSplitsAtAnyCutWrong : ChangeSpec := { name := "fnNewLineupSplitsAtAnyCut", fn := fun _ => fun
  | [d1, d2] => { results := [.lit (.bool false)], args := [d1, d2] }
  | _ => none }
def FnNewLineupSplitsAtAnyCutWrongFalsely : Prop := fnNewLineupSplitsAtAnyCutRow.holds Try.pinned (OpenSpec.ofChange fnNewLineupSplitsAtAnyCutWrong)

/-- 'zzlaws_root_b1.FnNewLineupOneWeightPutInAtAnyPlace': WHATEVER THE INPUT: true; the input reads as it did. -/
def fnNewLineupOneWeightPutInAtAnyPlaceSpec : ChangeSpec := { name := "fnNewLineupOneWeightPutInAtAnyPlace", fn := fun _ => fun
  | [d1, d2, d3] => { results := [.lit (.bool true)], args := [d1, d2, d3] }
  | _ => none }
def fnNewLineupOneWeightPutInAtAnyPlaceRow : OpenClaim := { program := "qxb6608919a", sum := "dec52a8ce3ea69996644ac0761d2c55666a738627c78565b8e16725731909570", func := "example.com/evenkeel/evenkeel/zzlaws_root_b1.FnNewLineupOneWeightPutInAtAnyPlace", spec := "fnNewLineupOneWeightPutInAtAnyPlace", apart := false }
def FnNewLineupOneWeightPutInAtAnyPlaceSaid : Prop := fnNewLineupOneWeightPutInAtAnyPlaceRow.holds Try.pinned (OpenSpec.ofChange fnNewLineupOneWeightPutInAtAnyPlaceSpec)

/-- ITS FALSE NEIGHBOUR: 'it returns false'. Refute it at one input. -/
def fnNewLineupOneWeightPutInAtAnyPlaceWrong : ChangeSpec := { name := "fnNewLineupOneWeightPutInAtAnyPlace", fn := fun _ => fun
  | [d1, d2, d3] => { results := [.lit (.bool false)], args := [d1, d2, d3] }
  | _ => none }
def FnNewLineupOneWeightPutInAtAnyPlaceWrongFalsely : Prop := fnNewLineupOneWeightPutInAtAnyPlaceRow.holds Try.pinned (OpenSpec.ofChange fnNewLineupOneWeightPutInAtAnyPlaceWrong)

/-- 'zzlaws_root_b1.FnTournamentCreditsGrowByWeightEachPick': WHATEVER THE INPUT: true; the input reads as it did. -/
def fnTournamentCreditsGrowByWeightEachPickSpec : ChangeSpec := { name := "fnTournamentCreditsGrowByWeightEachPick", fn := fun _ => fun
  | [d1, d2, d3, d4, d5] => { results := [.lit (.bool true)], args := [d1, d2, d3, d4, d5] }
  | _ => none }
def fnTournamentCreditsGrowByWeightEachPickRow : OpenClaim := { program := "qxb6608919a", sum := "dec52a8ce3ea69996644ac0761d2c55666a738627c78565b8e16725731909570", func := "example.com/evenkeel/evenkeel/zzlaws_root_b1.FnTournamentCreditsGrowByWeightEachPick", spec := "fnTournamentCreditsGrowByWeightEachPick", apart := false }
def FnTournamentCreditsGrowByWeightEachPickSaid : Prop := fnTournamentCreditsGrowByWeightEachPickRow.holds Try.pinned (OpenSpec.ofChange fnTournamentCreditsGrowByWeightEachPickSpec)

/-- ITS FALSE NEIGHBOUR: 'it returns false'. Refute it at one input. -/
def fnTournamentCreditsGrowByWeightEachPickWrong : ChangeSpec := { name := "fnTournamentCreditsGrowByWeightEachPick", fn := fun _ => fun
  | [d1, d2, d3, d4, d5] => { results := [.lit (.bool false)], args := [d1, d2, d3, d4, d5] }
  | _ => none }
def FnTournamentCreditsGrowByWeightEachPickWrongFalsely : Prop := fnTournamentCreditsGrowByWeightEachPickRow.holds Try.pinned (OpenSpec.ofChange fnTournamentCreditsGrowByWeightEachPickWrong)

end Rows
end Go.Proofs.Qxb6608919a

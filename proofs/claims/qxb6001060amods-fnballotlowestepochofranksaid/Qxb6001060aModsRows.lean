/-
  No cell of these rows narrows 'for every input' (looked for: loops, veiled, ifaces, maps, wideKeys, modest, calm, conditions, laid).
  DERIVED. THE GIVEN ROWS OF THIS SEAT. 4 by the template 'for every input the law returns true; each argument reads behind the call as it read before'; 0 by the template 'total and deterministic' (their statements: Qxb6001060aModsTotals.lean).
  GIVEN WITH THE SEED: the statements are not yours to turn. If you find one false, say at which input.
  Laid BY PROGRAM, IN A SANDBOX (cutbox-rows.mjs): the forced cells as the released guide's own fill.sh prints them over the translation 85a889abae73a6b5… (all of the seat's roots in one cut). By AI agents, Wed Nov 11 2026. No macro, syntax, notation, axiom, sorry.
-/
import Derived.Test.Qxb6001060aModsChecked
import GoSem.Claim
import GoSem.ClaimJoined
import GoSem.ClaimMapViews
import Derived.JoinedTies
import Derived.KernelRfl
namespace Go.Proofs.Qxb6001060aMods
/- THE CELL 'sum', in the pinned program and in every row, IS THE sha256 OF THE DUMP (.gsa) THAT Qxb6001060aModsProg.lean LOADS. Nothing in Lean hashes anything: it is a label: what it is worth is what the hold of that sum in a sandbox is worth. -/
noncomputable def Trym.pinned : Pinned := { name := "qxb6001060amods", sum := "85a889abae73a6b5db9706f8d05c6b811418e6f6a3fcb37f976e138ce99e9308", checked := Trym.checked }
namespace Rows
def none {H : Type} : Left H := { results := [], args := [] }

/-- 'zzlaws_root_b1.FnBallotLowestEpochOfRank': WHATEVER THE INPUT: true; the input reads as it did. -/
def fnBallotLowestEpochOfRankSpec : ChangeSpec := { name := "fnBallotLowestEpochOfRank", fn := fun _ => fun
  | [d1, d2, d3] => { results := [.lit (.bool true)], args := [d1, d2, d3] }
  | _ => none }
def fnBallotLowestEpochOfRankRow : OpenClaim := { program := "qxb6001060amods", sum := "85a889abae73a6b5db9706f8d05c6b811418e6f6a3fcb37f976e138ce99e9308", func := "example.com/bellwether/bellwether/zzlaws_root_b1.FnBallotLowestEpochOfRank", spec := "fnBallotLowestEpochOfRank", make := .lifted ["publicsums"], apart := false }
def FnBallotLowestEpochOfRankSaid : Prop := fnBallotLowestEpochOfRankRow.holds Trym.pinned (OpenSpec.ofChange fnBallotLowestEpochOfRankSpec)

/-- ITS FALSE NEIGHBOUR: 'it returns false'. Refute it at one input. -/
def fnBallotLowestEpochOfRankWrong : ChangeSpec := { name := "fnBallotLowestEpochOfRank", fn := fun _ => fun
  | [d1, d2, d3] => { results := [.lit (.bool false)], args := [d1, d2, d3] }
  | _ => none }
def FnBallotLowestEpochOfRankWrongFalsely : Prop := fnBallotLowestEpochOfRankRow.holds Trym.pinned (OpenSpec.ofChange fnBallotLowestEpochOfRankWrong)

/-- 'zzlaws_root_b1.FnBallotMonotoneInAfter': WHATEVER THE INPUT: true; the input reads as it did. -/
def fnBallotMonotoneInAfterSpec : ChangeSpec := { name := "fnBallotMonotoneInAfter", fn := fun _ => fun
  | [d1, d2, d3, d4] => { results := [.lit (.bool true)], args := [d1, d2, d3, d4] }
  | _ => none }
def fnBallotMonotoneInAfterRow : OpenClaim := { program := "qxb6001060amods", sum := "85a889abae73a6b5db9706f8d05c6b811418e6f6a3fcb37f976e138ce99e9308", func := "example.com/bellwether/bellwether/zzlaws_root_b1.FnBallotMonotoneInAfter", spec := "fnBallotMonotoneInAfter", make := .lifted ["publicsums"], apart := false }
def FnBallotMonotoneInAfterSaid : Prop := fnBallotMonotoneInAfterRow.holds Trym.pinned (OpenSpec.ofChange fnBallotMonotoneInAfterSpec)

/-- ITS FALSE NEIGHBOUR: 'it returns false'. Refute it at one input. -/
def fnBallotMonotoneInAfterWrong : ChangeSpec := { name := "fnBallotMonotoneInAfter", fn := fun _ => fun
  | [d1, d2, d3, d4] => { results := [.lit (.bool false)], args := [d1, d2, d3, d4] }
  | _ => none }
def FnBallotMonotoneInAfterWrongFalsely : Prop := fnBallotMonotoneInAfterRow.holds Trym.pinned (OpenSpec.ofChange fnBallotMonotoneInAfterWrong)

/-- 'zzlaws_root_b1.FnBallotNextOfSameRankIsNLater': WHATEVER THE INPUT: true; the input reads as it did. -/
def fnBallotNextOfSameRankIsNLaterSpec : ChangeSpec := { name := "fnBallotNextOfSameRankIsNLater", fn := fun _ => fun
  | [d1, d2, d3] => { results := [.lit (.bool true)], args := [d1, d2, d3] }
  | _ => none }
def fnBallotNextOfSameRankIsNLaterRow : OpenClaim := { program := "qxb6001060amods", sum := "85a889abae73a6b5db9706f8d05c6b811418e6f6a3fcb37f976e138ce99e9308", func := "example.com/bellwether/bellwether/zzlaws_root_b1.FnBallotNextOfSameRankIsNLater", spec := "fnBallotNextOfSameRankIsNLater", make := .lifted ["publicsums"], apart := false }
def FnBallotNextOfSameRankIsNLaterSaid : Prop := fnBallotNextOfSameRankIsNLaterRow.holds Trym.pinned (OpenSpec.ofChange fnBallotNextOfSameRankIsNLaterSpec)

/-- ITS FALSE NEIGHBOUR: 'it returns false'. Refute it at one input. -/
def fnBallotNextOfSameRankIsNLaterWrong : ChangeSpec := { name := "fnBallotNextOfSameRankIsNLater", fn := fun _ => fun
  | [d1, d2, d3] => { results := [.lit (.bool false)], args := [d1, d2, d3] }
  | _ => none }
def FnBallotNextOfSameRankIsNLaterWrongFalsely : Prop := fnBallotNextOfSameRankIsNLaterRow.holds Trym.pinned (OpenSpec.ofChange fnBallotNextOfSameRankIsNLaterWrong)

/-- 'zzlaws_root_b1.FnBallotRanksNeverShareAnEpoch': WHATEVER THE INPUT: true; the input reads as it did. -/
def fnBallotRanksNeverShareAnEpochSpec : ChangeSpec := { name := "fnBallotRanksNeverShareAnEpoch", fn := fun _ => fun
  | [d1, d2, d3, d4] => { results := [.lit (.bool true)], args := [d1, d2, d3, d4] }
  | _ => none }
def fnBallotRanksNeverShareAnEpochRow : OpenClaim := { program := "qxb6001060amods", sum := "85a889abae73a6b5db9706f8d05c6b811418e6f6a3fcb37f976e138ce99e9308", func := "example.com/bellwether/bellwether/zzlaws_root_b1.FnBallotRanksNeverShareAnEpoch", spec := "fnBallotRanksNeverShareAnEpoch", make := .lifted ["publicsums"], apart := false }
def FnBallotRanksNeverShareAnEpochSaid : Prop := fnBallotRanksNeverShareAnEpochRow.holds Trym.pinned (OpenSpec.ofChange fnBallotRanksNeverShareAnEpochSpec)

/-- ITS FALSE NEIGHBOUR: 'it returns false'. Refute it at one input. -/
def fnBallotRanksNeverShareAnEpochWrong : ChangeSpec := { name := "fnBallotRanksNeverShareAnEpoch", fn := fun _ => fun
  | [d1, d2, d3, d4] => { results := [.lit (.bool false)], args := [d1, d2, d3, d4] }
  | _ => none }
def FnBallotRanksNeverShareAnEpochWrongFalsely : Prop := fnBallotRanksNeverShareAnEpochRow.holds Trym.pinned (OpenSpec.ofChange fnBallotRanksNeverShareAnEpochWrong)

end Rows
end Go.Proofs.Qxb6001060aMods

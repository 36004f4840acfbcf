/-
  No cell of these rows narrows 'for every input' (looked for: loops, veiled, ifaces, maps, wideKeys, modest, calm, conditions, laid).
  DERIVED. THE GIVEN ROWS OF THIS SEAT. 2 by the template 'for every input the law returns true; each argument reads behind the call as it read before'; 0 by the template 'total and deterministic' (their statements: Qxb6001644aModsTotals.lean).
  GIVEN WITH THE SEED: the statements are not yours to turn. If you find one false, say at which input.
  Laid BY PROGRAM, IN A SANDBOX (cutbox-rows.mjs): the forced cells as the released guide's own fill.sh prints them over the translation 2c3ed985f97f8e2a… (all of the seat's roots in one cut). By AI agents, Wed Nov 11 2026. No macro, syntax, notation, axiom, sorry.
-/
import Derived.Test.Qxb6001644aModsChecked
import GoSem.Claim
import GoSem.ClaimJoined
import GoSem.ClaimMapViews
import Derived.JoinedTies
import Derived.KernelRfl
namespace Go.Proofs.Qxb6001644aMods
/- THE CELL 'sum', in the pinned program and in every row, IS THE sha256 OF THE DUMP (.gsa) THAT Qxb6001644aModsProg.lean LOADS. Nothing in Lean hashes anything: it is a label: what it is worth is what the hold of that sum in a sandbox is worth. -/
noncomputable def Trym.pinned : Pinned := { name := "qxb6001644amods", sum := "2c3ed985f97f8e2a330a8f1e34e62edb8d33a0ca361c1b6f9c04ec23394d4f52", checked := Trym.checked }
namespace Rows
def none {H : Type} : Left H := { results := [], args := [] }

/-- 'zzlaws_internal_lifecycle_b1.FnNameInRecoversName': WHATEVER THE INPUT: true; the input reads as it did. -/
def fnNameInRecoversNameSpec : ChangeSpec := { name := "fnNameInRecoversName", fn := fun _ => fun
  | [d1, d2, d3] => { results := [.lit (.bool true)], args := [d1, d2, d3] }
  | _ => none }
def fnNameInRecoversNameRow : OpenClaim := { program := "qxb6001644amods", sum := "2c3ed985f97f8e2a330a8f1e34e62edb8d33a0ca361c1b6f9c04ec23394d4f52", func := "example.com/sluice/sluice/zzlaws_internal_lifecycle_b1.FnNameInRecoversName", spec := "fnNameInRecoversName", make := .lifted ["publicsums"], apart := false }
def FnNameInRecoversNameSaid : Prop := fnNameInRecoversNameRow.holds Trym.pinned (OpenSpec.ofChange fnNameInRecoversNameSpec)

/-- ITS FALSE NEIGHBOUR: 'it returns false'. Refute it at one input. -/
def fnNameInRecoversNameWrong : ChangeSpec := { name := "fnNameInRecoversName", fn := fun _ => fun
  | [d1, d2, d3] => { results := [.lit (.bool false)], args := [d1, d2, d3] }
  | _ => none }
def FnNameInRecoversNameWrongFalsely : Prop := fnNameInRecoversNameRow.holds Trym.pinned (OpenSpec.ofChange fnNameInRecoversNameWrong)

/-- 'zzlaws_internal_lifecycle_b1.FnEndedFreshEachCall': WHATEVER THE INPUT: true; the input reads as it did. -/
def fnEndedFreshEachCallSpec : ChangeSpec := { name := "fnEndedFreshEachCall", fn := fun _ => fun
  | [d1, d2, d3] => { results := [.lit (.bool true)], args := [d1, d2, d3] }
  | _ => none }
def fnEndedFreshEachCallRow : OpenClaim := { program := "qxb6001644amods", sum := "2c3ed985f97f8e2a330a8f1e34e62edb8d33a0ca361c1b6f9c04ec23394d4f52", func := "example.com/sluice/sluice/zzlaws_internal_lifecycle_b1.FnEndedFreshEachCall", spec := "fnEndedFreshEachCall", make := .lifted ["publicsums"], apart := false }
def FnEndedFreshEachCallSaid : Prop := fnEndedFreshEachCallRow.holds Trym.pinned (OpenSpec.ofChange fnEndedFreshEachCallSpec)

/-- ITS FALSE NEIGHBOUR: 'it returns false'. Refute it at one input. -/
def fnEndedFreshEachCallWrong : ChangeSpec := { name := "fnEndedFreshEachCall", fn := fun _ => fun
  | [d1, d2, d3] => { results := [.lit (.bool false)], args := [d1, d2, d3] }
  | _ => none }
def FnEndedFreshEachCallWrongFalsely : Prop := fnEndedFreshEachCallRow.holds Trym.pinned (OpenSpec.ofChange fnEndedFreshEachCallWrong)

end Rows
end Go.Proofs.Qxb6001644aMods

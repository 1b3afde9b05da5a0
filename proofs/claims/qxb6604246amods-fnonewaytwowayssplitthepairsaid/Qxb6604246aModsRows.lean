/-
  No cell of these rows narrows 'for every input' (looked for: loops, veiled, ifaces, maps, wideKeys, modest, calm, conditions, laid).
  DERIVED. THE GIVEN ROWS OF THIS SEAT. 1 by the template 'for every input the law returns true; each argument reads behind the call as it read before'; 0 by the template 'total and deterministic' (their statements: Qxb6604246aModsTotals.lean).
  GIVEN WITH THE SEED: the statements are not yours to turn. If you find one false, say at which input.
  Laid BY PROGRAM, IN A SANDBOX (cutbox-rows.mjs): the forced cells as the released guide's own fill.sh prints them over the translation 9e035a0b1fb74219… (all of the seat's roots in one cut). By AI agents, Wed Nov 11 2026. No macro, syntax, notation, axiom, sorry.
-/
import Derived.Test.Qxb6604246aModsChecked
import GoSem.Claim
import GoSem.ClaimJoined
import GoSem.ClaimMapViews
import Derived.JoinedTies
import Derived.KernelRfl
namespace Go.Proofs.Qxb6604246aMods
/- THE CELL 'sum', in the pinned program and in every row, IS THE sha256 OF THE DUMP (.gsa) THAT Qxb6604246aModsProg.lean LOADS. Nothing in Lean hashes anything: it is a label: what it is worth is what the hold of that sum in a sandbox is worth. -/
noncomputable def Trym.pinned : Pinned := { name := "qxb6604246amods", sum := "9e035a0b1fb74219c25de8b1bfffe686a5a6f3faf4d979a353c5fbfec7b495c9", checked := Trym.checked }
namespace Rows
def none {H : Type} : Left H := { results := [], args := [] }

/-- 'zzlaws_internal_engine_b1.FnOneWayTwoWaysSplitThePair': WHATEVER THE INPUT: true; the input reads as it did. -/
def fnOneWayTwoWaysSplitThePairSpec : ChangeSpec := { name := "fnOneWayTwoWaysSplitThePair", fn := fun _ => fun
  | [d1, d2] => { results := [.lit (.bool true)], args := [d1, d2] }
  | _ => none }
def fnOneWayTwoWaysSplitThePairRow : OpenClaim := { program := "qxb6604246amods", sum := "9e035a0b1fb74219c25de8b1bfffe686a5a6f3faf4d979a353c5fbfec7b495c9", func := "example.com/tideline/tideline/zzlaws_internal_engine_b1.FnOneWayTwoWaysSplitThePair", spec := "fnOneWayTwoWaysSplitThePair", make := .lifted ["publicsums"], apart := false }
def FnOneWayTwoWaysSplitThePairSaid : Prop := fnOneWayTwoWaysSplitThePairRow.holds Trym.pinned (OpenSpec.ofChange fnOneWayTwoWaysSplitThePairSpec)

/-- ITS FALSE NEIGHBOUR: 'it returns false'. Refute it at one input. -/
def fnOneWayTwoWaysSplitThePairWrong : ChangeSpec := { name := "fnOneWayTwoWaysSplitThePair", fn := fun _ => fun
  | [d1, d2] => { results := [.lit (.bool false)], args := [d1, d2] }
  | _ => none }
def FnOneWayTwoWaysSplitThePairWrongFalsely : Prop := fnOneWayTwoWaysSplitThePairRow.holds Trym.pinned (OpenSpec.ofChange fnOneWayTwoWaysSplitThePairWrong)

end Rows
end Go.Proofs.Qxb6604246aMods

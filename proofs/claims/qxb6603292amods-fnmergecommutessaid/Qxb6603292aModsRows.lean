/-
  No cell of these rows narrows 'for every input' (looked for: loops, veiled, ifaces, maps, wideKeys, modest, calm, conditions, laid).
  DERIVED. THE GIVEN ROWS OF THIS SEAT. 3 by the template 'for every input the law returns true; each argument reads behind the call as it read before'; 0 by the template 'total and deterministic' (their statements: Qxb6603292aModsTotals.lean).
  GIVEN WITH THE SEED: the statements are not yours to turn. If you find one false, say at which input.
  Laid BY PROGRAM, IN A SANDBOX (cutbox-rows.mjs): the forced cells as the released guide's own fill.sh prints them over the translation 2d6440b31bc81a28… (all of the seat's roots in one cut). By AI agents, Wed Nov 11 2026. No macro, syntax, notation, axiom, sorry.
-/
import Derived.Test.Qxb6603292aModsChecked
import GoSem.Claim
import GoSem.ClaimJoined
import GoSem.ClaimMapViews
import Derived.JoinedTies
import Derived.KernelRfl
namespace Go.Proofs.Qxb6603292aMods
/- THE CELL 'sum', in the pinned program and in every row, IS THE sha256 OF THE DUMP (.gsa) THAT Qxb6603292aModsProg.lean LOADS. Nothing in Lean hashes anything: it is a label: what it is worth is what the hold of that sum in a sandbox is worth. -/
noncomputable def Trym.pinned : Pinned := { name := "qxb6603292amods", sum := "2d6440b31bc81a288f20b6000ab3f1133126c9761d3facedde76326b328bce28", checked := Trym.checked }
namespace Rows
def none {H : Type} : Left H := { results := [], args := [] }

/-- 'zzlaws_resource_b1.FnGroupNameJoin': WHATEVER THE INPUT: true; the input reads as it did. -/
def fnGroupNameJoinSpec : ChangeSpec := { name := "fnGroupNameJoin", fn := fun _ => fun
  | [d1, d2] => { results := [.lit (.bool true)], args := [d1, d2] }
  | _ => none }
def fnGroupNameJoinRow : OpenClaim := { program := "qxb6603292amods", sum := "2d6440b31bc81a288f20b6000ab3f1133126c9761d3facedde76326b328bce28", func := "example.com/signalpost/signalpost/zzlaws_resource_b1.FnGroupNameJoin", spec := "fnGroupNameJoin", inPlace := ["internal/bytealg.IndexByteString", "internal/bytealg.IndexString"], named := ["internal/bytealg.MaxLen"], make := .lifted ["publicsums"], apart := false }
def FnGroupNameJoinSaid : Prop := fnGroupNameJoinRow.holds Trym.pinned (OpenSpec.ofChange fnGroupNameJoinSpec)

/-- ITS FALSE NEIGHBOUR: 'it returns false'. Refute it at one input. -/
def fnGroupNameJoinWrong : ChangeSpec := { name := "fnGroupNameJoin", fn := fun _ => fun
  | [d1, d2] => { results := [.lit (.bool false)], args := [d1, d2] }
  | _ => none }
def FnGroupNameJoinWrongFalsely : Prop := fnGroupNameJoinRow.holds Trym.pinned (OpenSpec.ofChange fnGroupNameJoinWrong)

/-- 'zzlaws_resource_b1.FnMergeSortedUnion': WHATEVER THE INPUT: true; the input reads as it did. -/
def fnMergeSortedUnionSpec : ChangeSpec := { name := "fnMergeSortedUnion", fn := fun _ => fun
  | [d1, d2, d3] => { results := [.lit (.bool true)], args := [d1, d2, d3] }
  | _ => none }
def fnMergeSortedUnionRow : OpenClaim := { program := "qxb6603292amods", sum := "2d6440b31bc81a288f20b6000ab3f1133126c9761d3facedde76326b328bce28", func := "example.com/signalpost/signalpost/zzlaws_resource_b1.FnMergeSortedUnion", spec := "fnMergeSortedUnion", make := .lifted ["publicsums"], apart := false }
def FnMergeSortedUnionSaid : Prop := fnMergeSortedUnionRow.holds Trym.pinned (OpenSpec.ofChange fnMergeSortedUnionSpec)

/-- ITS FALSE NEIGHBOUR: 'it returns false'. Refute it at one input. -/
def fnMergeSortedUnionWrong : ChangeSpec := { name := "fnMergeSortedUnion", fn := fun _ => fun
  | [d1, d2, d3] => { results := [.lit (.bool false)], args := [d1, d2, d3] }
  | _ => none }
def FnMergeSortedUnionWrongFalsely : Prop := fnMergeSortedUnionRow.holds Trym.pinned (OpenSpec.ofChange fnMergeSortedUnionWrong)

/-- 'zzlaws_resource_b1.FnMergeCommutes': WHATEVER THE INPUT: true; the input reads as it did. -/
def fnMergeCommutesSpec : ChangeSpec := { name := "fnMergeCommutes", fn := fun _ => fun
  | [d1, d2] => { results := [.lit (.bool true)], args := [d1, d2] }
  | _ => none }
def fnMergeCommutesRow : OpenClaim := { program := "qxb6603292amods", sum := "2d6440b31bc81a288f20b6000ab3f1133126c9761d3facedde76326b328bce28", func := "example.com/signalpost/signalpost/zzlaws_resource_b1.FnMergeCommutes", spec := "fnMergeCommutes", make := .lifted ["publicsums"], apart := false }
def FnMergeCommutesSaid : Prop := fnMergeCommutesRow.holds Trym.pinned (OpenSpec.ofChange fnMergeCommutesSpec)

/-- ITS FALSE NEIGHBOUR: 'it returns false'. Refute it at one input. -/
def fnMergeCommutesWrong : ChangeSpec := { name := "fnMergeCommutes", fn := fun _ => fun
  | [d1, d2] => { results := [.lit (.bool false)], args := [d1, d2] }
  | _ => none }
def FnMergeCommutesWrongFalsely : Prop := fnMergeCommutesRow.holds Trym.pinned (OpenSpec.ofChange fnMergeCommutesWrong)

end Rows
end Go.Proofs.Qxb6603292aMods

/-
  No cell of these rows narrows 'for every input' (looked for: loops, veiled, ifaces, maps, wideKeys, modest, calm, conditions, laid).
  DERIVED. THE GIVEN ROWS OF THIS SEAT. 4 by the template 'for every input the law returns true; each argument reads behind the call as it read before'; 0 by the template 'total and deterministic' (their statements: Qxb6603872aModsTotals.lean).
  GIVEN WITH THE SEED: the statements are not yours to turn. If you find one false, say at which input.
  Laid BY PROGRAM, IN A SANDBOX (cutbox-rows.mjs): the forced cells as the released guide's own fill.sh prints them over the translation c17f7a1d6b48f638… (all of the seat's roots in one cut). By AI agents, Wed Nov 11 2026. No macro, syntax, notation, axiom, sorry.
-/
import Derived.Test.Qxb6603872aModsChecked
import GoSem.Claim
import GoSem.ClaimJoined
import GoSem.ClaimMapViews
import Derived.JoinedTies
import Derived.KernelRfl
namespace Go.Proofs.Qxb6603872aMods
/- THE CELL 'sum', in the pinned program and in every row, IS THE sha256 OF THE DUMP (.gsa) THAT Qxb6603872aModsProg.lean LOADS. Nothing in Lean hashes anything: it is a label: what it is worth is what the hold of that sum in a sandbox is worth. -/
noncomputable def Trym.pinned : Pinned := { name := "qxb6603872amods", sum := "c17f7a1d6b48f6386a3b838d5c8f115d7848541ff78016da38692e4fefceb252", checked := Trym.checked }
namespace Rows
def none {H : Type} : Left H := { results := [], args := [] }

/-- 'zzlaws_root_b1.FnCrc16MatchesLongDivision': WHATEVER THE INPUT: true; the input reads as it did. -/
def fnCrc16MatchesLongDivisionSpec : ChangeSpec := { name := "fnCrc16MatchesLongDivision", fn := fun _ => fun
  | [d] => { results := [.lit (.bool true)], args := [d] }
  | _ => none }
def fnCrc16MatchesLongDivisionRow : OpenClaim := { program := "qxb6603872amods", sum := "c17f7a1d6b48f6386a3b838d5c8f115d7848541ff78016da38692e4fefceb252", func := "example.com/luaky/luaky/zzlaws_root_b1.FnCrc16MatchesLongDivision", spec := "fnCrc16MatchesLongDivision", make := .lifted ["publicsums"], apart := false }
def FnCrc16MatchesLongDivisionSaid : Prop := fnCrc16MatchesLongDivisionRow.holds Trym.pinned (OpenSpec.ofChange fnCrc16MatchesLongDivisionSpec)

/-- ITS FALSE NEIGHBOUR: 'it returns false'. Refute it at one input. -/
def fnCrc16MatchesLongDivisionWrong : ChangeSpec := { name := "fnCrc16MatchesLongDivision", fn := fun _ => fun
  | [d] => { results := [.lit (.bool false)], args := [d] }
  | _ => none }
def FnCrc16MatchesLongDivisionWrongFalsely : Prop := fnCrc16MatchesLongDivisionRow.holds Trym.pinned (OpenSpec.ofChange fnCrc16MatchesLongDivisionWrong)

/-- 'zzlaws_root_b1.FnHashedPartFindsTag': WHATEVER THE INPUT: true; the input reads as it did. -/
def fnHashedPartFindsTagSpec : ChangeSpec := { name := "fnHashedPartFindsTag", fn := fun _ => fun
  | [d1, d2, d3] => { results := [.lit (.bool true)], args := [d1, d2, d3] }
  | _ => none }
def fnHashedPartFindsTagRow : OpenClaim := { program := "qxb6603872amods", sum := "c17f7a1d6b48f6386a3b838d5c8f115d7848541ff78016da38692e4fefceb252", func := "example.com/luaky/luaky/zzlaws_root_b1.FnHashedPartFindsTag", spec := "fnHashedPartFindsTag", inPlace := ["internal/bytealg.IndexByteString"], make := .lifted ["publicsums"], apart := false }
def FnHashedPartFindsTagSaid : Prop := fnHashedPartFindsTagRow.holds Trym.pinned (OpenSpec.ofChange fnHashedPartFindsTagSpec)

/-- ITS FALSE NEIGHBOUR: 'it returns false'. Refute it at one input. -/
def fnHashedPartFindsTagWrong : ChangeSpec := { name := "fnHashedPartFindsTag", fn := fun _ => fun
  | [d1, d2, d3] => { results := [.lit (.bool false)], args := [d1, d2, d3] }
  | _ => none }
def FnHashedPartFindsTagWrongFalsely : Prop := fnHashedPartFindsTagRow.holds Trym.pinned (OpenSpec.ofChange fnHashedPartFindsTagWrong)

/-- 'zzlaws_root_b1.FnValidNameSpec': WHATEVER THE INPUT: true; the input reads as it did. -/
def fnValidNameSpecSpec : ChangeSpec := { name := "fnValidNameSpec", fn := fun _ => fun
  | [d] => { results := [.lit (.bool true)], args := [d] }
  | _ => none }
def fnValidNameSpecRow : OpenClaim := { program := "qxb6603872amods", sum := "c17f7a1d6b48f6386a3b838d5c8f115d7848541ff78016da38692e4fefceb252", func := "example.com/luaky/luaky/zzlaws_root_b1.FnValidNameSpec", spec := "fnValidNameSpec", make := .lifted ["publicsums"], apart := false }
def FnValidNameSpecSaid : Prop := fnValidNameSpecRow.holds Trym.pinned (OpenSpec.ofChange fnValidNameSpecSpec)

/-- ITS FALSE NEIGHBOUR: 'it returns false'. Refute it at one input. -/
def fnValidNameSpecWrong : ChangeSpec := { name := "fnValidNameSpec", fn := fun _ => fun
  | [d] => { results := [.lit (.bool false)], args := [d] }
  | _ => none }
def FnValidNameSpecWrongFalsely : Prop := fnValidNameSpecRow.holds Trym.pinned (OpenSpec.ofChange fnValidNameSpecWrong)

/-- 'zzlaws_root_b1.FnValidNameIsItsOwnHashedPart': WHATEVER THE INPUT: true; the input reads as it did. -/
def fnValidNameIsItsOwnHashedPartSpec : ChangeSpec := { name := "fnValidNameIsItsOwnHashedPart", fn := fun _ => fun
  | [d] => { results := [.lit (.bool true)], args := [d] }
  | _ => none }
def fnValidNameIsItsOwnHashedPartRow : OpenClaim := { program := "qxb6603872amods", sum := "c17f7a1d6b48f6386a3b838d5c8f115d7848541ff78016da38692e4fefceb252", func := "example.com/luaky/luaky/zzlaws_root_b1.FnValidNameIsItsOwnHashedPart", spec := "fnValidNameIsItsOwnHashedPart", inPlace := ["internal/bytealg.IndexByteString"], make := .lifted ["publicsums"], apart := false }
def FnValidNameIsItsOwnHashedPartSaid : Prop := fnValidNameIsItsOwnHashedPartRow.holds Trym.pinned (OpenSpec.ofChange fnValidNameIsItsOwnHashedPartSpec)

/-- ITS FALSE NEIGHBOUR: 'it returns false'. Refute it at one input. -/
def fnValidNameIsItsOwnHashedPartWrong : ChangeSpec := { name := "fnValidNameIsItsOwnHashedPart", fn := fun _ => fun
  | [d] => { results := [.lit (.bool false)], args := [d] }
  | _ => none }
def FnValidNameIsItsOwnHashedPartWrongFalsely : Prop := fnValidNameIsItsOwnHashedPartRow.holds Trym.pinned (OpenSpec.ofChange fnValidNameIsItsOwnHashedPartWrong)

end Rows
end Go.Proofs.Qxb6603872aMods

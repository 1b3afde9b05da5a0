/-
  No cell of these rows narrows 'for every input' (looked for: loops, veiled, ifaces, maps, wideKeys, modest, calm, conditions, laid).
  DERIVED. THE GIVEN ROWS OF THIS SEAT. 3 by the template 'for every input the law returns true; each argument reads behind the call as it read before'; 0 by the template 'total and deterministic' (their statements: Qxb6604116aModsTotals.lean).
  GIVEN WITH THE SEED: the statements are not yours to turn. If you find one false, say at which input.
  Laid BY PROGRAM, IN A SANDBOX (cutbox-rows.mjs): the forced cells as the released guide's own fill.sh prints them over the translation 756e77129c595885… (all of the seat's roots in one cut). By AI agents, Wed Nov 11 2026. No macro, syntax, notation, axiom, sorry.
-/
import Derived.Test.Qxb6604116aModsChecked
import GoSem.Claim
import GoSem.ClaimJoined
import GoSem.ClaimMapViews
import Derived.JoinedTies
import Derived.KernelRfl
namespace Go.Proofs.Qxb6604116aMods
/- THE CELL 'sum', in the pinned program and in every row, IS THE sha256 OF THE DUMP (.gsa) THAT Qxb6604116aModsProg.lean LOADS. Nothing in Lean hashes anything: it is a label: what it is worth is what the hold of that sum in a sandbox is worth. -/
noncomputable def Trym.pinned : Pinned := { name := "qxb6604116amods", sum := "756e77129c5958857ee863797db6fee15beca24c9b1feed04eb7436fe4ac15a8", checked := Trym.checked }
namespace Rows
def none {H : Type} : Left H := { results := [], args := [] }

/-- 'zzlaws_proxy_b1.FnCutForwardedIgnoresWhatStandsLeft': WHATEVER THE INPUT: true; the input reads as it did. -/
def fnCutForwardedIgnoresWhatStandsLeftSpec : ChangeSpec := { name := "fnCutForwardedIgnoresWhatStandsLeft", fn := fun _ => fun
  | [d1, d2] => { results := [.lit (.bool true)], args := [d1, d2] }
  | _ => none }
def fnCutForwardedIgnoresWhatStandsLeftRow : OpenClaim := { program := "qxb6604116amods", sum := "756e77129c5958857ee863797db6fee15beca24c9b1feed04eb7436fe4ac15a8", func := "example.com/lachesis/lachesis/zzlaws_proxy_b1.FnCutForwardedIgnoresWhatStandsLeft", spec := "fnCutForwardedIgnoresWhatStandsLeft", make := .lifted ["publicsums"], apart := false }
def FnCutForwardedIgnoresWhatStandsLeftSaid : Prop := fnCutForwardedIgnoresWhatStandsLeftRow.holds Trym.pinned (OpenSpec.ofChange fnCutForwardedIgnoresWhatStandsLeftSpec)

/-- ITS FALSE NEIGHBOUR: 'it returns false'. Refute it at one input. -/
def fnCutForwardedIgnoresWhatStandsLeftWrong : ChangeSpec := { name := "fnCutForwardedIgnoresWhatStandsLeft", fn := fun _ => fun
  | [d1, d2] => { results := [.lit (.bool false)], args := [d1, d2] }
  | _ => none }
def FnCutForwardedIgnoresWhatStandsLeftWrongFalsely : Prop := fnCutForwardedIgnoresWhatStandsLeftRow.holds Trym.pinned (OpenSpec.ofChange fnCutForwardedIgnoresWhatStandsLeftWrong)

/-- 'zzlaws_proxy_b1.FnCutValueMatchesGrammar': WHATEVER THE INPUT: true; the input reads as it did. -/
def fnCutValueMatchesGrammarSpec : ChangeSpec := { name := "fnCutValueMatchesGrammar", fn := fun _ => fun
  | [d] => { results := [.lit (.bool true)], args := [d] }
  | _ => none }
def fnCutValueMatchesGrammarRow : OpenClaim := { program := "qxb6604116amods", sum := "756e77129c5958857ee863797db6fee15beca24c9b1feed04eb7436fe4ac15a8", func := "example.com/lachesis/lachesis/zzlaws_proxy_b1.FnCutValueMatchesGrammar", spec := "fnCutValueMatchesGrammar", make := .lifted ["publicsums"], apart := false }
def FnCutValueMatchesGrammarSaid : Prop := fnCutValueMatchesGrammarRow.holds Trym.pinned (OpenSpec.ofChange fnCutValueMatchesGrammarSpec)

/-- ITS FALSE NEIGHBOUR: 'it returns false'. Refute it at one input. -/
def fnCutValueMatchesGrammarWrong : ChangeSpec := { name := "fnCutValueMatchesGrammar", fn := fun _ => fun
  | [d] => { results := [.lit (.bool false)], args := [d] }
  | _ => none }
def FnCutValueMatchesGrammarWrongFalsely : Prop := fnCutValueMatchesGrammarRow.holds Trym.pinned (OpenSpec.ofChange fnCutValueMatchesGrammarWrong)

/-- 'zzlaws_proxy_b1.FnQuotedValueRoundTrip': WHATEVER THE INPUT: true; the input reads as it did. -/
def fnQuotedValueRoundTripSpec : ChangeSpec := { name := "fnQuotedValueRoundTrip", fn := fun _ => fun
  | [d1, d2] => { results := [.lit (.bool true)], args := [d1, d2] }
  | _ => none }
def fnQuotedValueRoundTripRow : OpenClaim := { program := "qxb6604116amods", sum := "756e77129c5958857ee863797db6fee15beca24c9b1feed04eb7436fe4ac15a8", func := "example.com/lachesis/lachesis/zzlaws_proxy_b1.FnQuotedValueRoundTrip", spec := "fnQuotedValueRoundTrip", inPlace := ["internal/bytealg.IndexByteString", "internal/bytealg.IndexString", "internal/abi.NoEscape"], named := ["internal/bytealg.MaxLen"], make := .lifted ["publicsums"], apart := false }
def FnQuotedValueRoundTripSaid : Prop := fnQuotedValueRoundTripRow.holds Trym.pinned (OpenSpec.ofChange fnQuotedValueRoundTripSpec)

/-- ITS FALSE NEIGHBOUR: 'it returns false'. Refute it at one input. -/
def fnQuotedValueRoundTripWrong : ChangeSpec := { name := "fnQuotedValueRoundTrip", fn := fun _ => fun
  | [d1, d2] => { results := [.lit (.bool false)], args := [d1, d2] }
  | _ => none }
def FnQuotedValueRoundTripWrongFalsely : Prop := fnQuotedValueRoundTripRow.holds Trym.pinned (OpenSpec.ofChange fnQuotedValueRoundTripWrong)

end Rows
end Go.Proofs.Qxb6604116aMods

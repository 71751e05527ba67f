/-
  No cell of these rows narrows 'for every input' (looked for: loops, veiled, ifaces, maps, wideKeys, modest, calm, conditions, laid).
  DERIVED. THE GIVEN ROWS OF THIS SEAT. 2 by the template 'for every input the law returns true; each argument reads behind the call as it read before'; 0 by the template 'total and deterministic' (their statements: Qxb6619605aTotals.lean).
  GIVEN WITH THE SEED: the statements are not yours to turn. If you find one false, say at which input.
  Laid BY PROGRAM, IN A SANDBOX (cutbox-rows.mjs): the forced cells as the released guide's own fill.sh prints them over the translation a2be99ae8a46906c… (all of the seat's roots in one cut). By AI agents, Wed Nov 11 2026. No macro, syntax, notation, axiom, sorry.
-/
import Derived.Test.Qxb6619605aChecked
import GoSem.Claim
import GoSem.ClaimJoined
import GoSem.ClaimMapViews
import Derived.JoinedTies
import Derived.KernelRfl
namespace Go.Proofs.Qxb6619605a
/- THE CELL 'sum', in the pinned program and in every row, IS THE sha256 OF THE DUMP (.gsa) THAT Qxb6619605aProg.lean LOADS. Nothing in Lean hashes anything: it is a label: what it is worth is what the hold of that sum in a sandbox is worth. -/
noncomputable def Try.pinned : Pinned := { name := "qxb6619605a", sum := "a2be99ae8a46906c6e1275a0cc01008b2426fe80d0d870e9c9246dcb7e37f423", checked := Try.checked }
namespace Rows
def none {H : Type} : Left H := { results := [], args := [] }

/-- 'zzlaws_esp_b1.FnHexDigitIsInverseOfDigitChar': WHATEVER THE INPUT: true; the input reads as it did. -/
def fnHexDigitIsInverseOfDigitCharSpec : ChangeSpec := { name := "fnHexDigitIsInverseOfDigitChar", fn := fun _ => fun
  | [d] => { results := [.lit (.bool true)], args := [d] }
  | _ => none }
def fnHexDigitIsInverseOfDigitCharRow : OpenClaim := { program := "qxb6619605a", sum := "a2be99ae8a46906c6e1275a0cc01008b2426fe80d0d870e9c9246dcb7e37f423", func := "example.com/pacewire/pacewire/zzlaws_esp_b1.FnHexDigitIsInverseOfDigitChar", spec := "fnHexDigitIsInverseOfDigitChar", apart := false }
def FnHexDigitIsInverseOfDigitCharSaid : Prop := fnHexDigitIsInverseOfDigitCharRow.holds Try.pinned (OpenSpec.ofChange fnHexDigitIsInverseOfDigitCharSpec)

/-- ITS FALSE NEIGHBOUR: 'it returns false'. Refute it at one input. -/
def fnHexDigitIsInverseOfDigitCharWrong : ChangeSpec := { name := "fnHexDigitIsInverseOfDigitChar", fn := fun _ => fun
  | [d] => { results := [.lit (.bool false)], args := [d] }
  | _ => none }
def FnHexDigitIsInverseOfDigitCharWrongFalsely : Prop := fnHexDigitIsInverseOfDigitCharRow.holds Try.pinned (OpenSpec.ofChange fnHexDigitIsInverseOfDigitCharWrong)

/-- 'zzlaws_esp_b1.FnHexDigitCensus': WHATEVER THE INPUT: true; the input reads as it did. -/
def fnHexDigitCensusSpec : ChangeSpec := { name := "fnHexDigitCensus", fn := fun _ => fun
  | [d] => { results := [.lit (.bool true)], args := [d] }
  | _ => none }
def fnHexDigitCensusRow : OpenClaim := { program := "qxb6619605a", sum := "a2be99ae8a46906c6e1275a0cc01008b2426fe80d0d870e9c9246dcb7e37f423", func := "example.com/pacewire/pacewire/zzlaws_esp_b1.FnHexDigitCensus", spec := "fnHexDigitCensus", apart := false }
def FnHexDigitCensusSaid : Prop := fnHexDigitCensusRow.holds Try.pinned (OpenSpec.ofChange fnHexDigitCensusSpec)

/-- ITS FALSE NEIGHBOUR: 'it returns false'. Refute it at one input. -/
def fnHexDigitCensusWrong : ChangeSpec := { name := "fnHexDigitCensus", fn := fun _ => fun
  | [d] => { results := [.lit (.bool false)], args := [d] }
  | _ => none }
def FnHexDigitCensusWrongFalsely : Prop := fnHexDigitCensusRow.holds Try.pinned (OpenSpec.ofChange fnHexDigitCensusWrong)

end Rows
end Go.Proofs.Qxb6619605a

/-
  No cell of these rows narrows 'for every input' (looked for: loops, veiled, ifaces, maps, wideKeys, modest, calm, conditions, laid).
  DERIVED. THE GIVEN ROWS OF THIS SEAT. 3 by the template 'for every input the law returns true; each argument reads behind the call as it read before'; 0 by the template 'total and deterministic' (their statements: Qxb6619836aTotals.lean).
  GIVEN WITH THE SEED: the statements are not yours to turn. If you find one false, say at which input.
  Laid BY PROGRAM, IN A SANDBOX (cutbox-rows.mjs): the forced cells as the released guide's own fill.sh prints them over the translation 1dfe4b4799dad043… (all of the seat's roots in one cut). By AI agents, Wed Nov 11 2026. No macro, syntax, notation, axiom, sorry.
-/
import Derived.Test.Qxb6619836aChecked
import GoSem.Claim
import GoSem.ClaimJoined
import GoSem.ClaimMapViews
import Derived.JoinedTies
import Derived.KernelRfl
namespace Go.Proofs.Qxb6619836a
/- THE CELL 'sum', in the pinned program and in every row, IS THE sha256 OF THE DUMP (.gsa) THAT Qxb6619836aProg.lean LOADS. Nothing in Lean hashes anything: it is a label: what it is worth is what the hold of that sum in a sandbox is worth. -/
noncomputable def Try.pinned : Pinned := { name := "qxb6619836a", sum := "1dfe4b4799dad043034abe2eb6a0b42e6ab14c4dba9a4d13c5eb5ab262f048f8", checked := Try.checked }
namespace Rows
def none {H : Type} : Left H := { results := [], args := [] }

/-- 'zzlaws_root_b1.FnMix32UnmixRoundTrip': WHATEVER THE INPUT: true; the input reads as it did. -/
def fnMix32UnmixRoundTripSpec : ChangeSpec := { name := "fnMix32UnmixRoundTrip", fn := fun _ => fun
  | [d] => { results := [.lit (.bool true)], args := [d] }
  | _ => none }
def fnMix32UnmixRoundTripRow : OpenClaim := { program := "qxb6619836a", sum := "1dfe4b4799dad043034abe2eb6a0b42e6ab14c4dba9a4d13c5eb5ab262f048f8", func := "example.com/forelog/forelog/zzlaws_root_b1.FnMix32UnmixRoundTrip", spec := "fnMix32UnmixRoundTrip", apart := false }
def FnMix32UnmixRoundTripSaid : Prop := fnMix32UnmixRoundTripRow.holds Try.pinned (OpenSpec.ofChange fnMix32UnmixRoundTripSpec)

/-- ITS FALSE NEIGHBOUR: 'it returns false'. Refute it at one input. -/
def fnMix32UnmixRoundTripWrong : ChangeSpec := { name := "fnMix32UnmixRoundTrip", fn := fun _ => fun
  | [d] => { results := [.lit (.bool false)], args := [d] }
  | _ => none }
def FnMix32UnmixRoundTripWrongFalsely : Prop := fnMix32UnmixRoundTripRow.holds Try.pinned (OpenSpec.ofChange fnMix32UnmixRoundTripWrong)

/-- 'zzlaws_root_b1.FnBlockEndKeptWhenABlockIsAppended': WHATEVER THE INPUT: true; the input reads as it did. -/
def fnBlockEndKeptWhenABlockIsAppendedSpec : ChangeSpec := { name := "fnBlockEndKeptWhenABlockIsAppended", fn := fun _ => fun
  | [d1, d2, d3, d4, d5, d6, d7, d8, d9, d10, d11, d12] => { results := [.lit (.bool true)], args := [d1, d2, d3, d4, d5, d6, d7, d8, d9, d10, d11, d12] }
  | _ => none }
def fnBlockEndKeptWhenABlockIsAppendedRow : OpenClaim := { program := "qxb6619836a", sum := "1dfe4b4799dad043034abe2eb6a0b42e6ab14c4dba9a4d13c5eb5ab262f048f8", func := "example.com/forelog/forelog/zzlaws_root_b1.FnBlockEndKeptWhenABlockIsAppended", spec := "fnBlockEndKeptWhenABlockIsAppended", apart := false }
def FnBlockEndKeptWhenABlockIsAppendedSaid : Prop := fnBlockEndKeptWhenABlockIsAppendedRow.holds Try.pinned (OpenSpec.ofChange fnBlockEndKeptWhenABlockIsAppendedSpec)

/-- ITS FALSE NEIGHBOUR: 'it returns false'. Refute it at one input. -/
def fnBlockEndKeptWhenABlockIsAppendedWrong : ChangeSpec := { name := "fnBlockEndKeptWhenABlockIsAppended", fn := fun _ => fun
  | [d1, d2, d3, d4, d5, d6, d7, d8, d9, d10, d11, d12] => { results := [.lit (.bool false)], args := [d1, d2, d3, d4, d5, d6, d7, d8, d9, d10, d11, d12] }
  | _ => none }
def FnBlockEndKeptWhenABlockIsAppendedWrongFalsely : Prop := fnBlockEndKeptWhenABlockIsAppendedRow.holds Try.pinned (OpenSpec.ofChange fnBlockEndKeptWhenABlockIsAppendedWrong)

/-- 'zzlaws_root_b1.FnBlockEndAgreesAcrossACut': WHATEVER THE INPUT: true; the input reads as it did. -/
def fnBlockEndAgreesAcrossACutSpec : ChangeSpec := { name := "fnBlockEndAgreesAcrossACut", fn := fun _ => fun
  | [d1, d2, d3, d4, d5, d6, d7, d8, d9, d10] => { results := [.lit (.bool true)], args := [d1, d2, d3, d4, d5, d6, d7, d8, d9, d10] }
  | _ => none }
def fnBlockEndAgreesAcrossACutRow : OpenClaim := { program := "qxb6619836a", sum := "1dfe4b4799dad043034abe2eb6a0b42e6ab14c4dba9a4d13c5eb5ab262f048f8", func := "example.com/forelog/forelog/zzlaws_root_b1.FnBlockEndAgreesAcrossACut", spec := "fnBlockEndAgreesAcrossACut", apart := false }
def FnBlockEndAgreesAcrossACutSaid : Prop := fnBlockEndAgreesAcrossACutRow.holds Try.pinned (OpenSpec.ofChange fnBlockEndAgreesAcrossACutSpec)

/-- ITS FALSE NEIGHBOUR: 'it returns false'. Refute it at one input. -/
def fnBlockEndAgreesAcrossACutWrong : ChangeSpec := { name := "fnBlockEndAgreesAcrossACut", fn := fun _ => fun
  | [d1, d2, d3, d4, d5, d6, d7, d8, d9, d10] => { results := [.lit (.bool false)], args := [d1, d2, d3, d4, d5, d6, d7, d8, d9, d10] }
  | _ => none }
def FnBlockEndAgreesAcrossACutWrongFalsely : Prop := fnBlockEndAgreesAcrossACutRow.holds Try.pinned (OpenSpec.ofChange fnBlockEndAgreesAcrossACutWrong)

end Rows
end Go.Proofs.Qxb6619836a

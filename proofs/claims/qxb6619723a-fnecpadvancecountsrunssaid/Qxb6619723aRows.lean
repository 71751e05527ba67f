/-
  No cell of these rows narrows 'for every input' (looked for: loops, veiled, ifaces, maps, wideKeys, modest, calm, conditions, laid).
  DERIVED. THE GIVEN ROWS OF THIS SEAT. 3 by the template 'for every input the law returns true; each argument reads behind the call as it read before'; 0 by the template 'total and deterministic' (their statements: Qxb6619723aTotals.lean).
  GIVEN WITH THE SEED: the statements are not yours to turn. If you find one false, say at which input.
  Laid BY PROGRAM, IN A SANDBOX (cutbox-rows.mjs): the forced cells as the released guide's own fill.sh prints them over the translation 73707f225ec24a27… (all of the seat's roots in one cut). By AI agents, Wed Nov 11 2026. No macro, syntax, notation, axiom, sorry.
-/
import Derived.Test.Qxb6619723aChecked
import GoSem.Claim
import GoSem.ClaimJoined
import GoSem.ClaimMapViews
import Derived.JoinedTies
import Derived.KernelRfl
namespace Go.Proofs.Qxb6619723a
/- THE CELL 'sum', in the pinned program and in every row, IS THE sha256 OF THE DUMP (.gsa) THAT Qxb6619723aProg.lean LOADS. Nothing in Lean hashes anything: it is a label: what it is worth is what the hold of that sum in a sandbox is worth. -/
noncomputable def Try.pinned : Pinned := { name := "qxb6619723a", sum := "73707f225ec24a279b47e9163ee0074efef15bbfaff3d1b98c98c128e45cd79b", checked := Try.checked }
namespace Rows
def none {H : Type} : Left H := { results := [], args := [] }

/-- 'zzlaws_root_b1.FnHistoryHoldsLastCapacity': WHATEVER THE INPUT: true; the input reads as it did. -/
def fnHistoryHoldsLastCapacitySpec : ChangeSpec := { name := "fnHistoryHoldsLastCapacity", fn := fun _ => fun
  | [d1, d2, d3, d4] => { results := [.lit (.bool true)], args := [d1, d2, d3, d4] }
  | _ => none }
def fnHistoryHoldsLastCapacityRow : OpenClaim := { program := "qxb6619723a", sum := "73707f225ec24a279b47e9163ee0074efef15bbfaff3d1b98c98c128e45cd79b", func := "example.com/hearsay/hearsay/zzlaws_root_b1.FnHistoryHoldsLastCapacity", spec := "fnHistoryHoldsLastCapacity", apart := false }
def FnHistoryHoldsLastCapacitySaid : Prop := fnHistoryHoldsLastCapacityRow.holds Try.pinned (OpenSpec.ofChange fnHistoryHoldsLastCapacitySpec)

/-- ITS FALSE NEIGHBOUR: 'it returns false'. Refute it at one input. -/
def fnHistoryHoldsLastCapacityWrong : ChangeSpec := { name := "fnHistoryHoldsLastCapacity", fn := fun _ => fun
  | [d1, d2, d3, d4] => { results := [.lit (.bool false)], args := [d1, d2, d3, d4] }
  | _ => none }
def FnHistoryHoldsLastCapacityWrongFalsely : Prop := fnHistoryHoldsLastCapacityRow.holds Try.pinned (OpenSpec.ofChange fnHistoryHoldsLastCapacityWrong)

/-- 'zzlaws_root_b1.FnECPAdvanceCountsRuns': WHATEVER THE INPUT: true; the input reads as it did. -/
def fnECPAdvanceCountsRunsSpec : ChangeSpec := { name := "fnECPAdvanceCountsRuns", fn := fun _ => fun
  | [d1, d2, d3, d4, d5, d6, d7, d8] => { results := [.lit (.bool true)], args := [d1, d2, d3, d4, d5, d6, d7, d8] }
  | _ => none }
def fnECPAdvanceCountsRunsRow : OpenClaim := { program := "qxb6619723a", sum := "73707f225ec24a279b47e9163ee0074efef15bbfaff3d1b98c98c128e45cd79b", func := "example.com/hearsay/hearsay/zzlaws_root_b1.FnECPAdvanceCountsRuns", spec := "fnECPAdvanceCountsRuns", apart := false }
def FnECPAdvanceCountsRunsSaid : Prop := fnECPAdvanceCountsRunsRow.holds Try.pinned (OpenSpec.ofChange fnECPAdvanceCountsRunsSpec)

/-- ITS FALSE NEIGHBOUR: 'it returns false'. Refute it at one input. -/
def fnECPAdvanceCountsRunsWrong : ChangeSpec := { name := "fnECPAdvanceCountsRuns", fn := fun _ => fun
  | [d1, d2, d3, d4, d5, d6, d7, d8] => { results := [.lit (.bool false)], args := [d1, d2, d3, d4, d5, d6, d7, d8] }
  | _ => none }
def FnECPAdvanceCountsRunsWrongFalsely : Prop := fnECPAdvanceCountsRunsRow.holds Try.pinned (OpenSpec.ofChange fnECPAdvanceCountsRunsWrong)

/-- 'zzlaws_root_b1.FnPushSumExchangeEqualizes': WHATEVER THE INPUT: true; the input reads as it did. -/
def fnPushSumExchangeEqualizesSpec : ChangeSpec := { name := "fnPushSumExchangeEqualizes", fn := fun _ => fun
  | [d1, d2, d3, d4, d5, d6] => { results := [.lit (.bool true)], args := [d1, d2, d3, d4, d5, d6] }
  | _ => none }
def fnPushSumExchangeEqualizesRow : OpenClaim := { program := "qxb6619723a", sum := "73707f225ec24a279b47e9163ee0074efef15bbfaff3d1b98c98c128e45cd79b", func := "example.com/hearsay/hearsay/zzlaws_root_b1.FnPushSumExchangeEqualizes", spec := "fnPushSumExchangeEqualizes", apart := false }
def FnPushSumExchangeEqualizesSaid : Prop := fnPushSumExchangeEqualizesRow.holds Try.pinned (OpenSpec.ofChange fnPushSumExchangeEqualizesSpec)

/-- ITS FALSE NEIGHBOUR: 'it returns false'. Refute it at one input. -/
def fnPushSumExchangeEqualizesWrong : ChangeSpec := { name := "fnPushSumExchangeEqualizes", fn := fun _ => fun
  | [d1, d2, d3, d4, d5, d6] => { results := [.lit (.bool false)], args := [d1, d2, d3, d4, d5, d6] }
  | _ => none }
def FnPushSumExchangeEqualizesWrongFalsely : Prop := fnPushSumExchangeEqualizesRow.holds Try.pinned (OpenSpec.ofChange fnPushSumExchangeEqualizesWrong)

end Rows
end Go.Proofs.Qxb6619723a

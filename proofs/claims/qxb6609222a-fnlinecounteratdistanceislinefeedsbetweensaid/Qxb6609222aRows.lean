/-
  No cell of these rows narrows 'for every input' (looked for: loops, veiled, ifaces, maps, wideKeys, modest, calm, conditions, laid).
  DERIVED. THE GIVEN ROWS OF THIS SEAT. 2 by the template 'for every input the law returns true; each argument reads behind the call as it read before'; 0 by the template 'total and deterministic' (their statements: Qxb6609222aTotals.lean).
  GIVEN WITH THE SEED: the statements are not yours to turn. If you find one false, say at which input.
  Laid BY PROGRAM, IN A SANDBOX (cutbox-rows.mjs): the forced cells as the released guide's own fill.sh prints them over the translation edb0683fd8d0bab5… (all of the seat's roots in one cut). By AI agents, Wed Nov 11 2026. No macro, syntax, notation, axiom, sorry.
-/
import Derived.Test.Qxb6609222aChecked
import GoSem.Claim
import GoSem.ClaimJoined
import GoSem.ClaimMapViews
import Derived.JoinedTies
import Derived.KernelRfl
namespace Go.Proofs.Qxb6609222a
/- THE CELL 'sum', in the pinned program and in every row, IS THE sha256 OF THE DUMP (.gsa) THAT Qxb6609222aProg.lean LOADS. Nothing in Lean hashes anything: it is a label: what it is worth is what the hold of that sum in a sandbox is worth. -/
noncomputable def Try.pinned : Pinned := { name := "qxb6609222a", sum := "edb0683fd8d0bab5c9cc10ff79668f806cfc00f8741f390a824d4ebcc15ecd60", checked := Try.checked }
namespace Rows
def none {H : Type} : Left H := { results := [], args := [] }

/-- 'zzlaws_internal_contract_b1.FnLineCounterAtIsOnePlusLineFeedsBefore': WHATEVER THE INPUT: true; the input reads as it did. -/
def fnLineCounterAtIsOnePlusLineFeedsBeforeSpec : ChangeSpec := { name := "fnLineCounterAtIsOnePlusLineFeedsBefore", fn := fun _ => fun
  | [d1, d2] => { results := [.lit (.bool true)], args := [d1, d2] }
  | _ => none }
def fnLineCounterAtIsOnePlusLineFeedsBeforeRow : OpenClaim := { program := "qxb6609222a", sum := "edb0683fd8d0bab5c9cc10ff79668f806cfc00f8741f390a824d4ebcc15ecd60", func := "example.com/tuoguan/tuoguan/zzlaws_internal_contract_b1.FnLineCounterAtIsOnePlusLineFeedsBefore", spec := "fnLineCounterAtIsOnePlusLineFeedsBefore", inPlace := ["internal/bytealg.Count", "internal/bytealg.IndexByte", "internal/bytealg.Index"], named := ["internal/bytealg.MaxLen"], apart := false }
def FnLineCounterAtIsOnePlusLineFeedsBeforeSaid : Prop := fnLineCounterAtIsOnePlusLineFeedsBeforeRow.holds Try.pinned (OpenSpec.ofChange fnLineCounterAtIsOnePlusLineFeedsBeforeSpec)

/-- ITS FALSE NEIGHBOUR: 'it returns false'. Refute it at one input. -/
def fnLineCounterAtIsOnePlusLineFeedsBeforeWrong : ChangeSpec := { name := "fnLineCounterAtIsOnePlusLineFeedsBefore", fn := fun _ => fun
  | [d1, d2] => { results := [.lit (.bool false)], args := [d1, d2] }
  | _ => none }
def FnLineCounterAtIsOnePlusLineFeedsBeforeWrongFalsely : Prop := fnLineCounterAtIsOnePlusLineFeedsBeforeRow.holds Try.pinned (OpenSpec.ofChange fnLineCounterAtIsOnePlusLineFeedsBeforeWrong)

/-- 'zzlaws_internal_contract_b1.FnLineCounterAtDistanceIsLineFeedsBetween': WHATEVER THE INPUT: true; the input reads as it did. -/
def fnLineCounterAtDistanceIsLineFeedsBetweenSpec : ChangeSpec := { name := "fnLineCounterAtDistanceIsLineFeedsBetween", fn := fun _ => fun
  | [d1, d2, d3] => { results := [.lit (.bool true)], args := [d1, d2, d3] }
  | _ => none }
def fnLineCounterAtDistanceIsLineFeedsBetweenRow : OpenClaim := { program := "qxb6609222a", sum := "edb0683fd8d0bab5c9cc10ff79668f806cfc00f8741f390a824d4ebcc15ecd60", func := "example.com/tuoguan/tuoguan/zzlaws_internal_contract_b1.FnLineCounterAtDistanceIsLineFeedsBetween", spec := "fnLineCounterAtDistanceIsLineFeedsBetween", inPlace := ["internal/bytealg.Count", "internal/bytealg.IndexByte", "internal/bytealg.Index"], named := ["internal/bytealg.MaxLen"], apart := false }
def FnLineCounterAtDistanceIsLineFeedsBetweenSaid : Prop := fnLineCounterAtDistanceIsLineFeedsBetweenRow.holds Try.pinned (OpenSpec.ofChange fnLineCounterAtDistanceIsLineFeedsBetweenSpec)

/-- ITS FALSE NEIGHBOUR: 'it returns false'. Refute it at one input. -/
def fnLineCounterAtDistanceIsLineFeedsBetweenWrong : ChangeSpec := { name := "fnLineCounterAtDistanceIsLineFeedsBetween", fn := fun _ => fun
  | [d1, d2, d3] => { results := [.lit (.bool false)], args := [d1, d2, d3] }
  | _ => none }
def FnLineCounterAtDistanceIsLineFeedsBetweenWrongFalsely : Prop := fnLineCounterAtDistanceIsLineFeedsBetweenRow.holds Try.pinned (OpenSpec.ofChange fnLineCounterAtDistanceIsLineFeedsBetweenWrong)

end Rows
end Go.Proofs.Qxb6609222a

/-
  No cell of these rows narrows 'for every input' (looked for: loops, veiled, ifaces, maps, wideKeys, modest, calm, conditions, laid).
  DERIVED. THE GIVEN ROWS OF THIS SEAT. 3 by the template 'for every input the law returns true; each argument reads behind the call as it read before'; 0 by the template 'total and deterministic' (their statements: Qxb6606444aTotals.lean).
  GIVEN WITH THE SEED: the statements are not yours to turn. If you find one false, say at which input.
  Laid BY PROGRAM, IN A SANDBOX (cutbox-rows.mjs): the forced cells as the released guide's own fill.sh prints them over the translation f3bd5edd09d1576c… (all of the seat's roots in one cut). By AI agents, Wed Nov 11 2026. No macro, syntax, notation, axiom, sorry.
-/
import Derived.Test.Qxb6606444aChecked
import GoSem.Claim
import GoSem.ClaimJoined
import GoSem.ClaimMapViews
import Derived.JoinedTies
import Derived.KernelRfl
namespace Go.Proofs.Qxb6606444a
/- THE CELL 'sum', in the pinned program and in every row, IS THE sha256 OF THE DUMP (.gsa) THAT Qxb6606444aProg.lean LOADS. Nothing in Lean hashes anything: it is a label: what it is worth is what the hold of that sum in a sandbox is worth. -/
noncomputable def Try.pinned : Pinned := { name := "qxb6606444a", sum := "f3bd5edd09d1576c6702698e90f834509a791f9b965b1797942bc3e43a14dd35", checked := Try.checked }
namespace Rows
def none {H : Type} : Left H := { results := [], args := [] }

/-- 'zzlaws_internal_jsonobject_b1.FnNestedMatchesRecursiveDescent': WHATEVER THE INPUT: true; the input reads as it did. -/
def fnNestedMatchesRecursiveDescentSpec : ChangeSpec := { name := "fnNestedMatchesRecursiveDescent", fn := fun _ => fun
  | [d1, d2, d3] => { results := [.lit (.bool true)], args := [d1, d2, d3] }
  | _ => none }
def fnNestedMatchesRecursiveDescentRow : OpenClaim := { program := "qxb6606444a", sum := "f3bd5edd09d1576c6702698e90f834509a791f9b965b1797942bc3e43a14dd35", func := "example.com/loomwork/loomwork/zzlaws_internal_jsonobject_b1.FnNestedMatchesRecursiveDescent", spec := "fnNestedMatchesRecursiveDescent", inPlace := ["internal/bytealg.IndexByte"], recurses := true, apart := false }
def FnNestedMatchesRecursiveDescentSaid : Prop := fnNestedMatchesRecursiveDescentRow.holds Try.pinned (OpenSpec.ofChange fnNestedMatchesRecursiveDescentSpec)

/-- ITS FALSE NEIGHBOUR: 'it returns false'. Refute it at one input. -/
def fnNestedMatchesRecursiveDescentWrong : ChangeSpec := { name := "fnNestedMatchesRecursiveDescent", fn := fun _ => fun
  | [d1, d2, d3] => { results := [.lit (.bool false)], args := [d1, d2, d3] }
  | _ => none }
def FnNestedMatchesRecursiveDescentWrongFalsely : Prop := fnNestedMatchesRecursiveDescentRow.holds Try.pinned (OpenSpec.ofChange fnNestedMatchesRecursiveDescentWrong)

/-- 'zzlaws_internal_jsonobject_b1.FnNestedSpanReadsWholeAlone': WHATEVER THE INPUT: true; the input reads as it did. -/
def fnNestedSpanReadsWholeAloneSpec : ChangeSpec := { name := "fnNestedSpanReadsWholeAlone", fn := fun _ => fun
  | [d1, d2] => { results := [.lit (.bool true)], args := [d1, d2] }
  | _ => none }
def fnNestedSpanReadsWholeAloneRow : OpenClaim := { program := "qxb6606444a", sum := "f3bd5edd09d1576c6702698e90f834509a791f9b965b1797942bc3e43a14dd35", func := "example.com/loomwork/loomwork/zzlaws_internal_jsonobject_b1.FnNestedSpanReadsWholeAlone", spec := "fnNestedSpanReadsWholeAlone", inPlace := ["internal/bytealg.IndexByte"], apart := false }
def FnNestedSpanReadsWholeAloneSaid : Prop := fnNestedSpanReadsWholeAloneRow.holds Try.pinned (OpenSpec.ofChange fnNestedSpanReadsWholeAloneSpec)

/-- ITS FALSE NEIGHBOUR: 'it returns false'. Refute it at one input. -/
def fnNestedSpanReadsWholeAloneWrong : ChangeSpec := { name := "fnNestedSpanReadsWholeAlone", fn := fun _ => fun
  | [d1, d2] => { results := [.lit (.bool false)], args := [d1, d2] }
  | _ => none }
def FnNestedSpanReadsWholeAloneWrongFalsely : Prop := fnNestedSpanReadsWholeAloneRow.holds Try.pinned (OpenSpec.ofChange fnNestedSpanReadsWholeAloneWrong)

/-- 'zzlaws_internal_jsonobject_b1.FnNestedIgnoresWhatFollows': WHATEVER THE INPUT: true; the input reads as it did. -/
def fnNestedIgnoresWhatFollowsSpec : ChangeSpec := { name := "fnNestedIgnoresWhatFollows", fn := fun _ => fun
  | [d1, d2, d3] => { results := [.lit (.bool true)], args := [d1, d2, d3] }
  | _ => none }
def fnNestedIgnoresWhatFollowsRow : OpenClaim := { program := "qxb6606444a", sum := "f3bd5edd09d1576c6702698e90f834509a791f9b965b1797942bc3e43a14dd35", func := "example.com/loomwork/loomwork/zzlaws_internal_jsonobject_b1.FnNestedIgnoresWhatFollows", spec := "fnNestedIgnoresWhatFollows", inPlace := ["internal/bytealg.IndexByte"], apart := false }
def FnNestedIgnoresWhatFollowsSaid : Prop := fnNestedIgnoresWhatFollowsRow.holds Try.pinned (OpenSpec.ofChange fnNestedIgnoresWhatFollowsSpec)

/-- ITS FALSE NEIGHBOUR: 'it returns false'. Refute it at one input. -/
def fnNestedIgnoresWhatFollowsWrong : ChangeSpec := { name := "fnNestedIgnoresWhatFollows", fn := fun _ => fun
  | [d1, d2, d3] => { results := [.lit (.bool false)], args := [d1, d2, d3] }
  | _ => none }
def FnNestedIgnoresWhatFollowsWrongFalsely : Prop := fnNestedIgnoresWhatFollowsRow.holds Try.pinned (OpenSpec.ofChange fnNestedIgnoresWhatFollowsWrong)

end Rows
end Go.Proofs.Qxb6606444a

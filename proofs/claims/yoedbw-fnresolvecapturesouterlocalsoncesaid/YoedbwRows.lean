/-
  No cell of these rows narrows 'for every input' (looked for: loops, veiled, ifaces, maps, wideKeys, modest, calm, conditions, laid).
  DERIVED. THE GIVEN ROWS OF THIS SEAT. 2 by the template 'for every input the law returns true; each argument reads behind the call as it read before'; 0 by the template 'total and deterministic' (their statements: YoedbwTotals.lean).
  GIVEN WITH THE SEED: the statements are not yours to turn. If you find one false, say at which input.
  Laid BY PROGRAM, IN A SANDBOX (cutbox-rows.mjs): the forced cells as the released guide's own fill.sh prints them over the translation 5e36712d7cf12a67… (all of the seat's roots in one cut). By AI agents, Wed Nov 11 2026. No macro, syntax, notation, axiom, sorry.
-/
import Derived.Test.YoedbwChecked
import GoSem.Claim
import GoSem.ClaimJoined
import GoSem.ClaimMapViews
import Derived.JoinedTies
import Derived.KernelRfl
namespace Go.Proofs.Yoedbw
/- THE CELL 'sum', in the pinned program and in every row, IS THE sha256 OF THE DUMP (.gsa) THAT YoedbwProg.lean LOADS. Nothing in Lean hashes anything: it is a label: what it is worth is what the hold of that sum in a sandbox is worth. -/
noncomputable def Edbg.pinned : Pinned := { name := "yoedbw", sum := "5e36712d7cf12a670485a3330ab5e61b47dfe755cbb2ae81ee7ca8486e7a5ebe", checked := Edbg.checked }
namespace Rows
def none {H : Type} : Left H := { results := [], args := [] }

/-- 'zzlaws_root_b1.FnDefineFreeSequenceSpec': WHATEVER THE INPUT: true; the input reads as it did. -/
def fnDefineFreeSequenceSpecSpec : ChangeSpec := { name := "fnDefineFreeSequenceSpec", fn := fun _ => fun
  | [d1, d2] => { results := [.lit (.bool true)], args := [d1, d2] }
  | _ => none }
def fnDefineFreeSequenceSpecRow : OpenClaim := { program := "yoedbw", sum := "5e36712d7cf12a670485a3330ab5e61b47dfe755cbb2ae81ee7ca8486e7a5ebe", func := "github.com/d5/tengo/v2/zzlaws_root_b1.FnDefineFreeSequenceSpec", spec := "fnDefineFreeSequenceSpec", recurses := true, apart := false }
def FnDefineFreeSequenceSpecSaid : Prop := fnDefineFreeSequenceSpecRow.holds Edbg.pinned (OpenSpec.ofChange fnDefineFreeSequenceSpecSpec)

/-- ITS FALSE NEIGHBOUR: 'it returns false'. Refute it at one input. -/
def fnDefineFreeSequenceSpecWrong : ChangeSpec := { name := "fnDefineFreeSequenceSpec", fn := fun _ => fun
  | [d1, d2] => { results := [.lit (.bool false)], args := [d1, d2] }
  | _ => none }
def FnDefineFreeSequenceSpecWrongFalsely : Prop := fnDefineFreeSequenceSpecRow.holds Edbg.pinned (OpenSpec.ofChange fnDefineFreeSequenceSpecWrong)

/-- 'zzlaws_root_b1.FnResolveCapturesOuterLocalsOnce': WHATEVER THE INPUT: true; the input reads as it did. -/
def fnResolveCapturesOuterLocalsOnceSpec : ChangeSpec := { name := "fnResolveCapturesOuterLocalsOnce", fn := fun _ => fun
  | [d] => { results := [.lit (.bool true)], args := [d] }
  | _ => none }
def fnResolveCapturesOuterLocalsOnceRow : OpenClaim := { program := "yoedbw", sum := "5e36712d7cf12a670485a3330ab5e61b47dfe755cbb2ae81ee7ca8486e7a5ebe", func := "github.com/d5/tengo/v2/zzlaws_root_b1.FnResolveCapturesOuterLocalsOnce", spec := "fnResolveCapturesOuterLocalsOnce", recurses := true, apart := false }
def FnResolveCapturesOuterLocalsOnceSaid : Prop := fnResolveCapturesOuterLocalsOnceRow.holds Edbg.pinned (OpenSpec.ofChange fnResolveCapturesOuterLocalsOnceSpec)

/-- ITS FALSE NEIGHBOUR: 'it returns false'. Refute it at one input. -/
def fnResolveCapturesOuterLocalsOnceWrong : ChangeSpec := { name := "fnResolveCapturesOuterLocalsOnce", fn := fun _ => fun
  | [d] => { results := [.lit (.bool false)], args := [d] }
  | _ => none }
def FnResolveCapturesOuterLocalsOnceWrongFalsely : Prop := fnResolveCapturesOuterLocalsOnceRow.holds Edbg.pinned (OpenSpec.ofChange fnResolveCapturesOuterLocalsOnceWrong)

end Rows
end Go.Proofs.Yoedbw

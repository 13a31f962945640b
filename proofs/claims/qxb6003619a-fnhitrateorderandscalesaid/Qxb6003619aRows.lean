/-
  No cell of these rows narrows 'for every input' (looked for: loops, veiled, ifaces, maps, wideKeys, modest, calm, conditions, laid).
  DERIVED. THE GIVEN ROWS OF THIS SEAT. 2 by the template 'for every input the law returns true; each argument reads behind the call as it read before'; 0 by the template 'total and deterministic' (their statements: Qxb6003619aTotals.lean).
  GIVEN WITH THE SEED: the statements are not yours to turn. If you find one false, say at which input.
  Laid BY PROGRAM, IN A SANDBOX (cutbox-rows.mjs): the forced cells as the released guide's own fill.sh prints them over the translation c21d42a9414f36f0… (all of the seat's roots in one cut). By AI agents, Wed Nov 11 2026. No macro, syntax, notation, axiom, sorry.
-/
import Derived.Test.Qxb6003619aChecked
import GoSem.Claim
import GoSem.ClaimJoined
import GoSem.ClaimMapViews
import Derived.JoinedTies
import Derived.KernelRfl
namespace Go.Proofs.Qxb6003619a
/- THE CELL 'sum', in the pinned program and in every row, IS THE sha256 OF THE DUMP (.gsa) THAT Qxb6003619aProg.lean LOADS. Nothing in Lean hashes anything: it is a label: what it is worth is what the hold of that sum in a sandbox is worth. -/
noncomputable def Try.pinned : Pinned := { name := "qxb6003619a", sum := "c21d42a9414f36f03476e4a078151b32a6a096d98517b0b4b87786f0da95c825", checked := Try.checked }
namespace Rows
def none {H : Type} : Left H := { results := [], args := [] }

/-- 'zzlaws_root_b1.FnCopyValueFreshCopy': WHATEVER THE INPUT: true; the input reads as it did. -/
def fnCopyValueFreshCopySpec : ChangeSpec := { name := "fnCopyValueFreshCopy", fn := fun _ => fun
  | [d1, d2, d3, d4] => { results := [.lit (.bool true)], args := [d1, d2, d3, d4] }
  | _ => none }
def fnCopyValueFreshCopyRow : OpenClaim := { program := "qxb6003619a", sum := "c21d42a9414f36f03476e4a078151b32a6a096d98517b0b4b87786f0da95c825", func := "example.com/ringhold/ringhold/zzlaws_root_b1.FnCopyValueFreshCopy", spec := "fnCopyValueFreshCopy", apart := false }
def FnCopyValueFreshCopySaid : Prop := fnCopyValueFreshCopyRow.holds Try.pinned (OpenSpec.ofChange fnCopyValueFreshCopySpec)

/-- ITS FALSE NEIGHBOUR: 'it returns false'. Refute it at one input. -/
def fnCopyValueFreshCopyWrong : ChangeSpec := { name := "fnCopyValueFreshCopy", fn := fun _ => fun
  | [d1, d2, d3, d4] => { results := [.lit (.bool false)], args := [d1, d2, d3, d4] }
  | _ => none }
def FnCopyValueFreshCopyWrongFalsely : Prop := fnCopyValueFreshCopyRow.holds Try.pinned (OpenSpec.ofChange fnCopyValueFreshCopyWrong)

/-- 'zzlaws_root_b1.FnHitRateOrderAndScale': WHATEVER THE INPUT: true; the input reads as it did. -/
def fnHitRateOrderAndScaleSpec : ChangeSpec := { name := "fnHitRateOrderAndScale", fn := fun _ => fun
  | [d1, d2, d3, d4, d5, d6, d7] => { results := [.lit (.bool true)], args := [d1, d2, d3, d4, d5, d6, d7] }
  | _ => none }
def fnHitRateOrderAndScaleRow : OpenClaim := { program := "qxb6003619a", sum := "c21d42a9414f36f03476e4a078151b32a6a096d98517b0b4b87786f0da95c825", func := "example.com/ringhold/ringhold/zzlaws_root_b1.FnHitRateOrderAndScale", spec := "fnHitRateOrderAndScale", apart := false }
def FnHitRateOrderAndScaleSaid : Prop := fnHitRateOrderAndScaleRow.holds Try.pinned (OpenSpec.ofChange fnHitRateOrderAndScaleSpec)

/-- ITS FALSE NEIGHBOUR: 'it returns false'. Refute it at one input. -/
def fnHitRateOrderAndScaleWrong : ChangeSpec := { name := "fnHitRateOrderAndScale", fn := fun _ => fun
  | [d1, d2, d3, d4, d5, d6, d7] => { results := [.lit (.bool false)], args := [d1, d2, d3, d4, d5, d6, d7] }
  | _ => none }
def FnHitRateOrderAndScaleWrongFalsely : Prop := fnHitRateOrderAndScaleRow.holds Try.pinned (OpenSpec.ofChange fnHitRateOrderAndScaleWrong)

end Rows
end Go.Proofs.Qxb6003619a

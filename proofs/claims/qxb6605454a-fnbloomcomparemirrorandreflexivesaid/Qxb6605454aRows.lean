/-
  No cell of these rows narrows 'for every input' (looked for: loops, veiled, ifaces, maps, wideKeys, modest, calm, conditions, laid).
  DERIVED. THE GIVEN ROWS OF THIS SEAT. 3 by the template 'for every input the law returns true; each argument reads behind the call as it read before'; 0 by the template 'total and deterministic' (their statements: Qxb6605454aTotals.lean).
  GIVEN WITH THE SEED: the statements are not yours to turn. If you find one false, say at which input.
  Laid BY PROGRAM, IN A SANDBOX (cutbox-rows.mjs): the forced cells as the released guide's own fill.sh prints them over the translation 77f60306b0bf28d3… (all of the seat's roots in one cut). By AI agents, Wed Nov 11 2026. No macro, syntax, notation, axiom, sorry.
-/
import Derived.Test.Qxb6605454aChecked
import GoSem.Claim
import GoSem.ClaimJoined
import GoSem.ClaimMapViews
import Derived.JoinedTies
import Derived.KernelRfl
namespace Go.Proofs.Qxb6605454a
/- THE CELL 'sum', in the pinned program and in every row, IS THE sha256 OF THE DUMP (.gsa) THAT Qxb6605454aProg.lean LOADS. Nothing in Lean hashes anything: it is a label: what it is worth is what the hold of that sum in a sandbox is worth. -/
noncomputable def Try.pinned : Pinned := { name := "qxb6605454a", sum := "77f60306b0bf28d3d8adbe13f872145464e26dd82631912cb3fc50e224d839ee", checked := Try.checked }
namespace Rows
def none {H : Type} : Left H := { results := [], args := [] }

/-- 'zzlaws_root_b1.FnBloomCompareMatchesDominance': WHATEVER THE INPUT: true; the input reads as it did. -/
def fnBloomCompareMatchesDominanceSpec : ChangeSpec := { name := "fnBloomCompareMatchesDominance", fn := fun _ => fun
  | [d1, d2] => { results := [.lit (.bool true)], args := [d1, d2] }
  | _ => none }
def fnBloomCompareMatchesDominanceRow : OpenClaim := { program := "qxb6605454a", sum := "77f60306b0bf28d3d8adbe13f872145464e26dd82631912cb3fc50e224d839ee", func := "example.com/causaltick/causaltick/zzlaws_root_b1.FnBloomCompareMatchesDominance", spec := "fnBloomCompareMatchesDominance", apart := false }
def FnBloomCompareMatchesDominanceSaid : Prop := fnBloomCompareMatchesDominanceRow.holds Try.pinned (OpenSpec.ofChange fnBloomCompareMatchesDominanceSpec)

/-- ITS FALSE NEIGHBOUR: 'it returns false'. Refute it at one input. -/
def fnBloomCompareMatchesDominanceWrong : ChangeSpec := { name := "fnBloomCompareMatchesDominance", fn := fun _ => fun
  | [d1, d2] => { results := [.lit (.bool false)], args := [d1, d2] }
  | _ => none }
def FnBloomCompareMatchesDominanceWrongFalsely : Prop := fnBloomCompareMatchesDominanceRow.holds Try.pinned (OpenSpec.ofChange fnBloomCompareMatchesDominanceWrong)

/-- 'zzlaws_root_b1.FnBloomCompareMirrorAndReflexive': WHATEVER THE INPUT: true; the input reads as it did. -/
def fnBloomCompareMirrorAndReflexiveSpec : ChangeSpec := { name := "fnBloomCompareMirrorAndReflexive", fn := fun _ => fun
  | [d1, d2] => { results := [.lit (.bool true)], args := [d1, d2] }
  | _ => none }
def fnBloomCompareMirrorAndReflexiveRow : OpenClaim := { program := "qxb6605454a", sum := "77f60306b0bf28d3d8adbe13f872145464e26dd82631912cb3fc50e224d839ee", func := "example.com/causaltick/causaltick/zzlaws_root_b1.FnBloomCompareMirrorAndReflexive", spec := "fnBloomCompareMirrorAndReflexive", apart := false }
def FnBloomCompareMirrorAndReflexiveSaid : Prop := fnBloomCompareMirrorAndReflexiveRow.holds Try.pinned (OpenSpec.ofChange fnBloomCompareMirrorAndReflexiveSpec)

/-- ITS FALSE NEIGHBOUR: 'it returns false'. Refute it at one input. -/
def fnBloomCompareMirrorAndReflexiveWrong : ChangeSpec := { name := "fnBloomCompareMirrorAndReflexive", fn := fun _ => fun
  | [d1, d2] => { results := [.lit (.bool false)], args := [d1, d2] }
  | _ => none }
def FnBloomCompareMirrorAndReflexiveWrongFalsely : Prop := fnBloomCompareMirrorAndReflexiveRow.holds Try.pinned (OpenSpec.ofChange fnBloomCompareMirrorAndReflexiveWrong)

/-- 'zzlaws_root_b1.FnBloomReceiveThenTickFollowsBoth': WHATEVER THE INPUT: true; the input reads as it did. -/
def fnBloomReceiveThenTickFollowsBothSpec : ChangeSpec := { name := "fnBloomReceiveThenTickFollowsBoth", fn := fun _ => fun
  | [d1, d2, d3] => { results := [.lit (.bool true)], args := [d1, d2, d3] }
  | _ => none }
def fnBloomReceiveThenTickFollowsBothRow : OpenClaim := { program := "qxb6605454a", sum := "77f60306b0bf28d3d8adbe13f872145464e26dd82631912cb3fc50e224d839ee", func := "example.com/causaltick/causaltick/zzlaws_root_b1.FnBloomReceiveThenTickFollowsBoth", spec := "fnBloomReceiveThenTickFollowsBoth", apart := false }
def FnBloomReceiveThenTickFollowsBothSaid : Prop := fnBloomReceiveThenTickFollowsBothRow.holds Try.pinned (OpenSpec.ofChange fnBloomReceiveThenTickFollowsBothSpec)

/-- ITS FALSE NEIGHBOUR: 'it returns false'. Refute it at one input. -/
def fnBloomReceiveThenTickFollowsBothWrong : ChangeSpec := { name := "fnBloomReceiveThenTickFollowsBoth", fn := fun _ => fun
  | [d1, d2, d3] => { results := [.lit (.bool false)], args := [d1, d2, d3] }
  | _ => none }
def FnBloomReceiveThenTickFollowsBothWrongFalsely : Prop := fnBloomReceiveThenTickFollowsBothRow.holds Try.pinned (OpenSpec.ofChange fnBloomReceiveThenTickFollowsBothWrong)

end Rows
end Go.Proofs.Qxb6605454a

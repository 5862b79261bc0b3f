/-
  No cell of these rows narrows 'for every input' (looked for: loops, veiled, ifaces, maps, wideKeys, modest, calm, conditions, laid).
  DERIVED. THE GIVEN ROWS OF THIS SEAT. 3 by the template 'for every input the law returns true; each argument reads behind the call as it read before'; 0 by the template 'total and deterministic' (their statements: Qxb6612769aTotals.lean).
  GIVEN WITH THE SEED: the statements are not yours to turn. If you find one false, say at which input.
  Laid BY PROGRAM, IN A SANDBOX (cutbox-rows.mjs): the forced cells as the released guide's own fill.sh prints them over the translation 2e64f55de61f66f2… (all of the seat's roots in one cut). By AI agents, Wed Nov 11 2026. No macro, syntax, notation, axiom, sorry.
-/
import Derived.Test.Qxb6612769aChecked
import GoSem.Claim
import GoSem.ClaimJoined
import GoSem.ClaimMapViews
import Derived.JoinedTies
import Derived.KernelRfl
namespace Go.Proofs.Qxb6612769a
/- THE CELL 'sum', in the pinned program and in every row, IS THE sha256 OF THE DUMP (.gsa) THAT Qxb6612769aProg.lean LOADS. Nothing in Lean hashes anything: it is a label: what it is worth is what the hold of that sum in a sandbox is worth. -/
noncomputable def Try.pinned : Pinned := { name := "qxb6612769a", sum := "2e64f55de61f66f24be60114791fcf532af1c7a6a5520b16f3c769de37749517", checked := Try.checked }
namespace Rows
def none {H : Type} : Left H := { results := [], args := [] }

/-- 'zzlaws_root_b1.FnInIDOrderJoinsAtAnyCut': WHATEVER THE INPUT: true; the input reads as it did. -/
def fnInIDOrderJoinsAtAnyCutSpec : ChangeSpec := { name := "fnInIDOrderJoinsAtAnyCut", fn := fun _ => fun
  | [d1, d2, d3] => { results := [.lit (.bool true)], args := [d1, d2, d3] }
  | _ => none }
def fnInIDOrderJoinsAtAnyCutRow : OpenClaim := { program := "qxb6612769a", sum := "2e64f55de61f66f24be60114791fcf532af1c7a6a5520b16f3c769de37749517", func := "example.com/holdfast/holdfast/zzlaws_root_b1.FnInIDOrderJoinsAtAnyCut", spec := "fnInIDOrderJoinsAtAnyCut", unfollowed := true, recurses := true, apart := false }
def FnInIDOrderJoinsAtAnyCutSaid : Prop := fnInIDOrderJoinsAtAnyCutRow.holds Try.pinned (OpenSpec.ofChange fnInIDOrderJoinsAtAnyCutSpec)

/-- ITS FALSE NEIGHBOUR: 'it returns false'. Refute it at one input. -/
def fnInIDOrderJoinsAtAnyCutWrong : ChangeSpec := { name := "fnInIDOrderJoinsAtAnyCut", fn := fun _ => fun
  | [d1, d2, d3] => { results := [.lit (.bool false)], args := [d1, d2, d3] }
  | _ => none }
def FnInIDOrderJoinsAtAnyCutWrongFalsely : Prop := fnInIDOrderJoinsAtAnyCutRow.holds Try.pinned (OpenSpec.ofChange fnInIDOrderJoinsAtAnyCutWrong)

/-- 'zzlaws_root_b1.FnGrowSpreadsEveryChainInOrder': WHATEVER THE INPUT: true; the input reads as it did. -/
def fnGrowSpreadsEveryChainInOrderSpec : ChangeSpec := { name := "fnGrowSpreadsEveryChainInOrder", fn := fun _ => fun
  | [d1, d2, d3] => { results := [.lit (.bool true)], args := [d1, d2, d3] }
  | _ => none }
def fnGrowSpreadsEveryChainInOrderRow : OpenClaim := { program := "qxb6612769a", sum := "2e64f55de61f66f24be60114791fcf532af1c7a6a5520b16f3c769de37749517", func := "example.com/holdfast/holdfast/zzlaws_root_b1.FnGrowSpreadsEveryChainInOrder", spec := "fnGrowSpreadsEveryChainInOrder", inPlace := ["sync/atomic.StorePointer", "sync/atomic.LoadPointer"], apart := false }
def FnGrowSpreadsEveryChainInOrderSaid : Prop := fnGrowSpreadsEveryChainInOrderRow.holds Try.pinned (OpenSpec.ofChange fnGrowSpreadsEveryChainInOrderSpec)

/-- ITS FALSE NEIGHBOUR: 'it returns false'. Refute it at one input. -/
def fnGrowSpreadsEveryChainInOrderWrong : ChangeSpec := { name := "fnGrowSpreadsEveryChainInOrder", fn := fun _ => fun
  | [d1, d2, d3] => { results := [.lit (.bool false)], args := [d1, d2, d3] }
  | _ => none }
def FnGrowSpreadsEveryChainInOrderWrongFalsely : Prop := fnGrowSpreadsEveryChainInOrderRow.holds Try.pinned (OpenSpec.ofChange fnGrowSpreadsEveryChainInOrderWrong)

/-- 'zzlaws_root_b1.FnGrowAgreesWithATableBuiltWider': WHATEVER THE INPUT: true; the input reads as it did. -/
def fnGrowAgreesWithATableBuiltWiderSpec : ChangeSpec := { name := "fnGrowAgreesWithATableBuiltWider", fn := fun _ => fun
  | [d1, d2, d3] => { results := [.lit (.bool true)], args := [d1, d2, d3] }
  | _ => none }
def fnGrowAgreesWithATableBuiltWiderRow : OpenClaim := { program := "qxb6612769a", sum := "2e64f55de61f66f24be60114791fcf532af1c7a6a5520b16f3c769de37749517", func := "example.com/holdfast/holdfast/zzlaws_root_b1.FnGrowAgreesWithATableBuiltWider", spec := "fnGrowAgreesWithATableBuiltWider", inPlace := ["sync/atomic.LoadPointer", "sync/atomic.StorePointer"], apart := false }
def FnGrowAgreesWithATableBuiltWiderSaid : Prop := fnGrowAgreesWithATableBuiltWiderRow.holds Try.pinned (OpenSpec.ofChange fnGrowAgreesWithATableBuiltWiderSpec)

/-- ITS FALSE NEIGHBOUR: 'it returns false'. Refute it at one input. -/
def fnGrowAgreesWithATableBuiltWiderWrong : ChangeSpec := { name := "fnGrowAgreesWithATableBuiltWider", fn := fun _ => fun
  | [d1, d2, d3] => { results := [.lit (.bool false)], args := [d1, d2, d3] }
  | _ => none }
def FnGrowAgreesWithATableBuiltWiderWrongFalsely : Prop := fnGrowAgreesWithATableBuiltWiderRow.holds Try.pinned (OpenSpec.ofChange fnGrowAgreesWithATableBuiltWiderWrong)

end Rows
end Go.Proofs.Qxb6612769a

/-
  No cell of these rows narrows 'for every input' (looked for: loops, veiled, ifaces, maps, wideKeys, modest, calm, conditions, laid).
  DERIVED. THE GIVEN ROWS OF THIS SEAT. 1 by the template 'for every input the law returns true; each argument reads behind the call as it read before'; 0 by the template 'total and deterministic' (their statements: Qxb6612832aTotals.lean).
  GIVEN WITH THE SEED: the statements are not yours to turn. If you find one false, say at which input.
  Laid BY PROGRAM, IN A SANDBOX (cutbox-rows.mjs): the forced cells as the released guide's own fill.sh prints them over the translation ebbd6cd291d671e8… (all of the seat's roots in one cut). By AI agents, Wed Nov 11 2026. No macro, syntax, notation, axiom, sorry.
-/
import Derived.Test.Qxb6612832aChecked
import GoSem.Claim
import GoSem.ClaimJoined
import GoSem.ClaimMapViews
import Derived.JoinedTies
import Derived.KernelRfl
namespace Go.Proofs.Qxb6612832a
/- THE CELL 'sum', in the pinned program and in every row, IS THE sha256 OF THE DUMP (.gsa) THAT Qxb6612832aProg.lean LOADS. Nothing in Lean hashes anything: it is a label: what it is worth is what the hold of that sum in a sandbox is worth. -/
noncomputable def Try.pinned : Pinned := { name := "qxb6612832a", sum := "ebbd6cd291d671e8be7526c4448c5d15328fbe4995b34d3c9be8d73c90783f80", checked := Try.checked }
namespace Rows
def none {H : Type} : Left H := { results := [], args := [] }

/-- 'zzlaws_walk_b1.FnBorrowedAgreesWithBinaryCodec': WHATEVER THE INPUT: true; the input reads as it did. -/
def fnBorrowedAgreesWithBinaryCodecSpec : ChangeSpec := { name := "fnBorrowedAgreesWithBinaryCodec", fn := fun _ => fun
  | [d1, d2, d3, d4] => { results := [.lit (.bool true)], args := [d1, d2, d3, d4] }
  | _ => none }
def fnBorrowedAgreesWithBinaryCodecRow : OpenClaim := { program := "qxb6612832a", sum := "ebbd6cd291d671e8be7526c4448c5d15328fbe4995b34d3c9be8d73c90783f80", func := "example.com/veracar/veracar/zzlaws_walk_b1.FnBorrowedAgreesWithBinaryCodec", spec := "fnBorrowedAgreesWithBinaryCodec", apart := false }
def FnBorrowedAgreesWithBinaryCodecSaid : Prop := fnBorrowedAgreesWithBinaryCodecRow.holds Try.pinned (OpenSpec.ofChange fnBorrowedAgreesWithBinaryCodecSpec)

/-- ITS FALSE NEIGHBOUR: 'it returns false'. Refute it at one input. -/
def fnBorrowedAgreesWithBinaryCodecWrong : ChangeSpec := { name := "fnBorrowedAgreesWithBinaryCodec", fn := fun _ => fun
  | [d1, d2, d3, d4] => { results := [.lit (.bool false)], args := [d1, d2, d3, d4] }
  | _ => none }
def FnBorrowedAgreesWithBinaryCodecWrongFalsely : Prop := fnBorrowedAgreesWithBinaryCodecRow.holds Try.pinned (OpenSpec.ofChange fnBorrowedAgreesWithBinaryCodecWrong)

end Rows
end Go.Proofs.Qxb6612832a

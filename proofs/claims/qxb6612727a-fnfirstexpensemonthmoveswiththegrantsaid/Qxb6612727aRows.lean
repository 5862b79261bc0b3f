/-
  No cell of these rows narrows 'for every input' (looked for: loops, veiled, ifaces, maps, wideKeys, modest, calm, conditions, laid).
  DERIVED. THE GIVEN ROWS OF THIS SEAT. 1 by the template 'for every input the law returns true; each argument reads behind the call as it read before'; 0 by the template 'total and deterministic' (their statements: Qxb6612727aTotals.lean).
  GIVEN WITH THE SEED: the statements are not yours to turn. If you find one false, say at which input.
  Laid BY PROGRAM, IN A SANDBOX (cutbox-rows.mjs): the forced cells as the released guide's own fill.sh prints them over the translation 775186166221785b… (all of the seat's roots in one cut). By AI agents, Wed Nov 11 2026. No macro, syntax, notation, axiom, sorry.
-/
import Derived.Test.Qxb6612727aChecked
import GoSem.Claim
import GoSem.ClaimJoined
import GoSem.ClaimMapViews
import Derived.JoinedTies
import Derived.KernelRfl
namespace Go.Proofs.Qxb6612727a
/- THE CELL 'sum', in the pinned program and in every row, IS THE sha256 OF THE DUMP (.gsa) THAT Qxb6612727aProg.lean LOADS. Nothing in Lean hashes anything: it is a label: what it is worth is what the hold of that sum in a sandbox is worth. -/
noncomputable def Try.pinned : Pinned := { name := "qxb6612727a", sum := "775186166221785b6c5106cf84d7b4fe1eecca9f964567b533382b40936f9ee3", checked := Try.checked }
namespace Rows
def none {H : Type} : Left H := { results := [], args := [] }

/-- 'zzlaws_pkg_plan_b1.FnFirstExpenseMonthMovesWithTheGrant': WHATEVER THE INPUT: true; the input reads as it did. -/
def fnFirstExpenseMonthMovesWithTheGrantSpec : ChangeSpec := { name := "fnFirstExpenseMonthMovesWithTheGrant", fn := fun _ => fun
  | [d1, d2, d3, d4, d5, d6] => { results := [.lit (.bool true)], args := [d1, d2, d3, d4, d5, d6] }
  | _ => none }
def fnFirstExpenseMonthMovesWithTheGrantRow : OpenClaim := { program := "qxb6612727a", sum := "775186166221785b6c5106cf84d7b4fe1eecca9f964567b533382b40936f9ee3", func := "example.com/vestwright/vestwright/zzlaws_pkg_plan_b1.FnFirstExpenseMonthMovesWithTheGrant", spec := "fnFirstExpenseMonthMovesWithTheGrant", apart := false }
def FnFirstExpenseMonthMovesWithTheGrantSaid : Prop := fnFirstExpenseMonthMovesWithTheGrantRow.holds Try.pinned (OpenSpec.ofChange fnFirstExpenseMonthMovesWithTheGrantSpec)

/-- ITS FALSE NEIGHBOUR: 'it returns false'. Refute it at one input. -/
def fnFirstExpenseMonthMovesWithTheGrantWrong : ChangeSpec := { name := "fnFirstExpenseMonthMovesWithTheGrant", fn := fun _ => fun
  | [d1, d2, d3, d4, d5, d6] => { results := [.lit (.bool false)], args := [d1, d2, d3, d4, d5, d6] }
  | _ => none }
def FnFirstExpenseMonthMovesWithTheGrantWrongFalsely : Prop := fnFirstExpenseMonthMovesWithTheGrantRow.holds Try.pinned (OpenSpec.ofChange fnFirstExpenseMonthMovesWithTheGrantWrong)

end Rows
end Go.Proofs.Qxb6612727a

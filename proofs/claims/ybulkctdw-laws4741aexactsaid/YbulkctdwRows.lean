/-
  No cell of these rows narrows 'for every input' (looked for: loops, veiled, ifaces, maps, wideKeys, modest, calm, conditions, laid).
  DERIVED. THE GIVEN ROWS OF THIS SEAT. 2 by the template 'for every input the law returns true; each argument reads behind the call as it read before'; 0 by the template 'total and deterministic' (their statements: YbulkctdwTotals.lean).
  GIVEN WITH THE SEED: the statements are not yours to turn. If you find one false, say at which input.
  Laid BY PROGRAM, IN A SANDBOX (cutbox-rows.mjs): the forced cells as the released guide's own fill.sh prints them over the translation d5e65da80bb54292… (all of the seat's roots in one cut). By AI agents, Wed Nov 11 2026. No macro, syntax, notation, axiom, sorry.
-/
import Derived.Test.YbulkctdwChecked
import GoSem.Claim
import GoSem.ClaimJoined
import GoSem.ClaimMapViews
import Derived.JoinedTies
import Derived.KernelRfl
namespace Go.Proofs.Ybulkctdw
/- THE CELL 'sum', in the pinned program and in every row, IS THE sha256 OF THE DUMP (.gsa) THAT YbulkctdwProg.lean LOADS. Nothing in Lean hashes anything: it is a label: what it is worth is what the hold of that sum in a sandbox is worth. -/
noncomputable def Yba.pinned : Pinned := { name := "ybulkctdw", sum := "d5e65da80bb542921662244188874ae6d7344ee204fbf92f6e997b5d2df6aaa1", checked := Yba.checked }
namespace Rows
def none {H : Type} : Left H := { results := [], args := [] }

/-- 'decimal.LawS4741AExact': WHATEVER THE INPUT: true; the input reads as it did. -/
def lawS4741AExactSpec : ChangeSpec := { name := "lawS4741AExact", fn := fun _ => fun
  | [d1, d2, d3] => { results := [.lit (.bool true)], args := [d1, d2, d3] }
  | _ => none }
def lawS4741AExactRow : OpenClaim := { program := "ybulkctdw", sum := "d5e65da80bb542921662244188874ae6d7344ee204fbf92f6e997b5d2df6aaa1", func := "example.com/xunjia/xunjia/decimal.LawS4741AExact", spec := "lawS4741AExact", inPlace := ["math/bits.Add64"], apart := false }
def LawS4741AExactSaid : Prop := lawS4741AExactRow.holds Yba.pinned (OpenSpec.ofChange lawS4741AExactSpec)

/-- ITS FALSE NEIGHBOUR: 'it returns false'. Refute it at one input. -/
def lawS4741AExactWrong : ChangeSpec := { name := "lawS4741AExact", fn := fun _ => fun
  | [d1, d2, d3] => { results := [.lit (.bool false)], args := [d1, d2, d3] }
  | _ => none }
def LawS4741AExactWrongFalsely : Prop := lawS4741AExactRow.holds Yba.pinned (OpenSpec.ofChange lawS4741AExactWrong)

/-- 'decimal.LawS4741ADigits': WHATEVER THE INPUT: true; the input reads as it did. -/
def lawS4741ADigitsSpec : ChangeSpec := { name := "lawS4741ADigits", fn := fun _ => fun
  | [d] => { results := [.lit (.bool true)], args := [d] }
  | _ => none }
def lawS4741ADigitsRow : OpenClaim := { program := "ybulkctdw", sum := "d5e65da80bb542921662244188874ae6d7344ee204fbf92f6e997b5d2df6aaa1", func := "example.com/xunjia/xunjia/decimal.LawS4741ADigits", spec := "lawS4741ADigits", apart := false }
def LawS4741ADigitsSaid : Prop := lawS4741ADigitsRow.holds Yba.pinned (OpenSpec.ofChange lawS4741ADigitsSpec)

/-- ITS FALSE NEIGHBOUR: 'it returns false'. Refute it at one input. -/
def lawS4741ADigitsWrong : ChangeSpec := { name := "lawS4741ADigits", fn := fun _ => fun
  | [d] => { results := [.lit (.bool false)], args := [d] }
  | _ => none }
def LawS4741ADigitsWrongFalsely : Prop := lawS4741ADigitsRow.holds Yba.pinned (OpenSpec.ofChange lawS4741ADigitsWrong)

end Rows
end Go.Proofs.Ybulkctdw

/-
  No cell of these rows narrows 'for every input' (looked for: loops, veiled, ifaces, maps, wideKeys, modest, calm, conditions, laid).
  DERIVED. THE GIVEN ROWS OF THIS SEAT. 5 by the template 'for every input the law returns true; each argument reads behind the call as it read before'; 0 by the template 'total and deterministic' (their statements: YbulkcsxkTotals.lean).
  GIVEN WITH THE SEED: the statements are not yours to turn. If you find one false, say at which input.
  Laid BY PROGRAM, IN A SANDBOX (cutbox-rows.mjs): the forced cells as the released guide's own fill.sh prints them over the translation 96526d80f5e42dc2… (all of the seat's roots in one cut). By AI agents, Wed Nov 11 2026. No macro, syntax, notation, axiom, sorry.
-/
import Derived.Test.YbulkcsxkChecked
import GoSem.Claim
import GoSem.ClaimJoined
import GoSem.ClaimMapViews
import Derived.JoinedTies
import Derived.KernelRfl
namespace Go.Proofs.Ybulkcsxk
/- THE CELL 'sum', in the pinned program and in every row, IS THE sha256 OF THE DUMP (.gsa) THAT YbulkcsxkProg.lean LOADS. Nothing in Lean hashes anything: it is a label: what it is worth is what the hold of that sum in a sandbox is worth. -/
noncomputable def Yba.pinned : Pinned := { name := "ybulkcsxk", sum := "96526d80f5e42dc281cb3903958e8b92f4aa9dcfa1f014e3c618b1fb51cef460", checked := Yba.checked }
namespace Rows
def none {H : Type} : Left H := { results := [], args := [] }

/-- 'wordstack.LawS4729ASets': WHATEVER THE INPUT: true; the input reads as it did. -/
def lawS4729ASetsSpec : ChangeSpec := { name := "lawS4729ASets", fn := fun _ => fun
  | [d1, d2, d3] => { results := [.lit (.bool true)], args := [d1, d2, d3] }
  | _ => none }
def lawS4729ASetsRow : OpenClaim := { program := "ybulkcsxk", sum := "96526d80f5e42dc281cb3903958e8b92f4aa9dcfa1f014e3c618b1fb51cef460", func := "example.com/wordstack/wordstack.LawS4729ASets", spec := "lawS4729ASets", unfollowed := true, recurses := true, apart := false }
def LawS4729ASetsSaid : Prop := lawS4729ASetsRow.holds Yba.pinned (OpenSpec.ofChange lawS4729ASetsSpec)

/-- ITS FALSE NEIGHBOUR: 'it returns false'. Refute it at one input. -/
def lawS4729ASetsWrong : ChangeSpec := { name := "lawS4729ASets", fn := fun _ => fun
  | [d1, d2, d3] => { results := [.lit (.bool false)], args := [d1, d2, d3] }
  | _ => none }
def LawS4729ASetsWrongFalsely : Prop := lawS4729ASetsRow.holds Yba.pinned (OpenSpec.ofChange lawS4729ASetsWrong)

/-- 'wordstack.LawS4729ALaterWins': WHATEVER THE INPUT: true; the input reads as it did. -/
def lawS4729ALaterWinsSpec : ChangeSpec := { name := "lawS4729ALaterWins", fn := fun _ => fun
  | [d1, d2] => { results := [.lit (.bool true)], args := [d1, d2] }
  | _ => none }
def lawS4729ALaterWinsRow : OpenClaim := { program := "ybulkcsxk", sum := "96526d80f5e42dc281cb3903958e8b92f4aa9dcfa1f014e3c618b1fb51cef460", func := "example.com/wordstack/wordstack.LawS4729ALaterWins", spec := "lawS4729ALaterWins", unfollowed := true, recurses := true, apart := false }
def LawS4729ALaterWinsSaid : Prop := lawS4729ALaterWinsRow.holds Yba.pinned (OpenSpec.ofChange lawS4729ALaterWinsSpec)

/-- ITS FALSE NEIGHBOUR: 'it returns false'. Refute it at one input. -/
def lawS4729ALaterWinsWrong : ChangeSpec := { name := "lawS4729ALaterWins", fn := fun _ => fun
  | [d1, d2] => { results := [.lit (.bool false)], args := [d1, d2] }
  | _ => none }
def LawS4729ALaterWinsWrongFalsely : Prop := lawS4729ALaterWinsRow.holds Yba.pinned (OpenSpec.ofChange lawS4729ALaterWinsWrong)

/-- 'wordstack.LawS4729BStep': WHATEVER THE INPUT: true; the input reads as it did. -/
def lawS4729BStepSpec : ChangeSpec := { name := "lawS4729BStep", fn := fun _ => fun
  | [d1, d2] => { results := [.lit (.bool true)], args := [d1, d2] }
  | _ => none }
def lawS4729BStepRow : OpenClaim := { program := "ybulkcsxk", sum := "96526d80f5e42dc281cb3903958e8b92f4aa9dcfa1f014e3c618b1fb51cef460", func := "example.com/wordstack/wordstack.LawS4729BStep", spec := "lawS4729BStep", apart := false }
def LawS4729BStepSaid : Prop := lawS4729BStepRow.holds Yba.pinned (OpenSpec.ofChange lawS4729BStepSpec)

/-- ITS FALSE NEIGHBOUR: 'it returns false'. Refute it at one input. -/
def lawS4729BStepWrong : ChangeSpec := { name := "lawS4729BStep", fn := fun _ => fun
  | [d1, d2] => { results := [.lit (.bool false)], args := [d1, d2] }
  | _ => none }
def LawS4729BStepWrongFalsely : Prop := lawS4729BStepRow.holds Yba.pinned (OpenSpec.ofChange lawS4729BStepWrong)

/-- 'wordstack.LawS4729BSplit': WHATEVER THE INPUT: true; the input reads as it did. -/
def lawS4729BSplitSpec : ChangeSpec := { name := "lawS4729BSplit", fn := fun _ => fun
  | [d] => { results := [.lit (.bool true)], args := [d] }
  | _ => none }
def lawS4729BSplitRow : OpenClaim := { program := "ybulkcsxk", sum := "96526d80f5e42dc281cb3903958e8b92f4aa9dcfa1f014e3c618b1fb51cef460", func := "example.com/wordstack/wordstack.LawS4729BSplit", spec := "lawS4729BSplit", apart := false }
def LawS4729BSplitSaid : Prop := lawS4729BSplitRow.holds Yba.pinned (OpenSpec.ofChange lawS4729BSplitSpec)

/-- ITS FALSE NEIGHBOUR: 'it returns false'. Refute it at one input. -/
def lawS4729BSplitWrong : ChangeSpec := { name := "lawS4729BSplit", fn := fun _ => fun
  | [d] => { results := [.lit (.bool false)], args := [d] }
  | _ => none }
def LawS4729BSplitWrongFalsely : Prop := lawS4729BSplitRow.holds Yba.pinned (OpenSpec.ofChange lawS4729BSplitWrong)

/-- 'wordstack.LawS4729CExact': WHATEVER THE INPUT: true; the input reads as it did. -/
def lawS4729CExactSpec : ChangeSpec := { name := "lawS4729CExact", fn := fun _ => fun
  | [d1, d2, d3] => { results := [.lit (.bool true)], args := [d1, d2, d3] }
  | _ => none }
def lawS4729CExactRow : OpenClaim := { program := "ybulkcsxk", sum := "96526d80f5e42dc281cb3903958e8b92f4aa9dcfa1f014e3c618b1fb51cef460", func := "example.com/wordstack/wordstack.LawS4729CExact", spec := "lawS4729CExact", apart := false }
def LawS4729CExactSaid : Prop := lawS4729CExactRow.holds Yba.pinned (OpenSpec.ofChange lawS4729CExactSpec)

/-- ITS FALSE NEIGHBOUR: 'it returns false'. Refute it at one input. -/
def lawS4729CExactWrong : ChangeSpec := { name := "lawS4729CExact", fn := fun _ => fun
  | [d1, d2, d3] => { results := [.lit (.bool false)], args := [d1, d2, d3] }
  | _ => none }
def LawS4729CExactWrongFalsely : Prop := lawS4729CExactRow.holds Yba.pinned (OpenSpec.ofChange lawS4729CExactWrong)

end Rows
end Go.Proofs.Ybulkcsxk

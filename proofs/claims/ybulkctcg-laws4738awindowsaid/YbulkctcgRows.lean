/-
  No cell of these rows narrows 'for every input' (looked for: loops, veiled, ifaces, maps, wideKeys, modest, calm, conditions, laid).
  DERIVED. THE GIVEN ROWS OF THIS SEAT. 2 by the template 'for every input the law returns true; each argument reads behind the call as it read before'; 0 by the template 'total and deterministic' (their statements: YbulkctcgTotals.lean).
  GIVEN WITH THE SEED: the statements are not yours to turn. If you find one false, say at which input.
  Laid BY PROGRAM, IN A SANDBOX (cutbox-rows.mjs): the forced cells as the released guide's own fill.sh prints them over the translation eaee01af418417e6… (all of the seat's roots in one cut). By AI agents, Wed Nov 11 2026. No macro, syntax, notation, axiom, sorry.
-/
import Derived.Test.YbulkctcgChecked
import GoSem.Claim
import GoSem.ClaimJoined
import GoSem.ClaimMapViews
import Derived.JoinedTies
import Derived.KernelRfl
namespace Go.Proofs.Ybulkctcg
/- THE CELL 'sum', in the pinned program and in every row, IS THE sha256 OF THE DUMP (.gsa) THAT YbulkctcgProg.lean LOADS. Nothing in Lean hashes anything: it is a label: what it is worth is what the hold of that sum in a sandbox is worth. -/
noncomputable def Yba.pinned : Pinned := { name := "ybulkctcg", sum := "eaee01af418417e6e0a352b5f83364dc3ddbed34645740e238ff3bd56164eb83", checked := Yba.checked }
namespace Rows
def none {H : Type} : Left H := { results := [], args := [] }

/-- 'geshtinanna.LawS4738AModel': WHATEVER THE INPUT: true; the input reads as it did. -/
def lawS4738AModelSpec : ChangeSpec := { name := "lawS4738AModel", fn := fun _ => fun
  | [d] => { results := [.lit (.bool true)], args := [d] }
  | _ => none }
def lawS4738AModelRow : OpenClaim := { program := "ybulkctcg", sum := "eaee01af418417e6e0a352b5f83364dc3ddbed34645740e238ff3bd56164eb83", func := "example.com/geshtinanna/geshtinanna.LawS4738AModel", spec := "lawS4738AModel", apart := false }
def LawS4738AModelSaid : Prop := lawS4738AModelRow.holds Yba.pinned (OpenSpec.ofChange lawS4738AModelSpec)

/-- ITS FALSE NEIGHBOUR: 'it returns false'. Refute it at one input. -/
def lawS4738AModelWrong : ChangeSpec := { name := "lawS4738AModel", fn := fun _ => fun
  | [d] => { results := [.lit (.bool false)], args := [d] }
  | _ => none }
def LawS4738AModelWrongFalsely : Prop := lawS4738AModelRow.holds Yba.pinned (OpenSpec.ofChange lawS4738AModelWrong)

/-- 'geshtinanna.LawS4738AWindow': WHATEVER THE INPUT: true; the input reads as it did. -/
def lawS4738AWindowSpec : ChangeSpec := { name := "lawS4738AWindow", fn := fun _ => fun
  | [d1, d2] => { results := [.lit (.bool true)], args := [d1, d2] }
  | _ => none }
def lawS4738AWindowRow : OpenClaim := { program := "ybulkctcg", sum := "eaee01af418417e6e0a352b5f83364dc3ddbed34645740e238ff3bd56164eb83", func := "example.com/geshtinanna/geshtinanna.LawS4738AWindow", spec := "lawS4738AWindow", apart := false }
def LawS4738AWindowSaid : Prop := lawS4738AWindowRow.holds Yba.pinned (OpenSpec.ofChange lawS4738AWindowSpec)

/-- ITS FALSE NEIGHBOUR: 'it returns false'. Refute it at one input. -/
def lawS4738AWindowWrong : ChangeSpec := { name := "lawS4738AWindow", fn := fun _ => fun
  | [d1, d2] => { results := [.lit (.bool false)], args := [d1, d2] }
  | _ => none }
def LawS4738AWindowWrongFalsely : Prop := lawS4738AWindowRow.holds Yba.pinned (OpenSpec.ofChange lawS4738AWindowWrong)

end Rows
end Go.Proofs.Ybulkctcg

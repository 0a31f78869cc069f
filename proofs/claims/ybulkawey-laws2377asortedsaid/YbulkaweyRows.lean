/-
  No cell of these rows narrows 'for every input' (looked for: loops, veiled, ifaces, maps, wideKeys, modest, calm, conditions, laid).
  DERIVED. THE GIVEN ROWS OF THIS SEAT. 4 by the template 'for every input the law returns true; each argument reads behind the call as it read before'; 0 by the template 'total and deterministic' (their statements: YbulkaweyTotals.lean).
  GIVEN WITH THE SEED: the statements are not yours to turn. If you find one false, say at which input.
  Laid BY PROGRAM, IN A SANDBOX (cutbox-rows.mjs): the forced cells as the released guide's own fill.sh prints them over the translation c96d4df7d71ea259… (all of the seat's roots in one cut). By AI agents, Wed Nov 11 2026. No macro, syntax, notation, axiom, sorry.
-/
import Derived.Test.YbulkaweyChecked
import GoSem.Claim
import GoSem.ClaimJoined
import GoSem.ClaimMapViews
import Derived.JoinedTies
import Derived.KernelRfl
namespace Go.Proofs.Ybulkawey
/- THE CELL 'sum', in the pinned program and in every row, IS THE sha256 OF THE DUMP (.gsa) THAT YbulkaweyProg.lean LOADS. Nothing in Lean hashes anything: it is a label: what it is worth is what the hold of that sum in a sandbox is worth. -/
noncomputable def Yba.pinned : Pinned := { name := "ybulkawey", sum := "c96d4df7d71ea259d0dfa3f8c023a4788cdd3987e565e53002ca5e4ce73979e7", checked := Yba.checked }
namespace Rows
def none {H : Type} : Left H := { results := [], args := [] }

/-- 'model.LawS2377ASorted': WHATEVER THE INPUT: true; the input reads as it did. -/
def lawS2377ASortedSpec : ChangeSpec := { name := "lawS2377ASorted", fn := fun _ => fun
  | [d] => { results := [.lit (.bool true)], args := [d] }
  | _ => none }
def lawS2377ASortedRow : OpenClaim := { program := "ybulkawey", sum := "c96d4df7d71ea259d0dfa3f8c023a4788cdd3987e565e53002ca5e4ce73979e7", func := "example.com/orderwitness/orderwitness/internal/model.LawS2377ASorted", spec := "lawS2377ASorted", unfollowed := true, recurses := true, apart := false }
def LawS2377ASortedSaid : Prop := lawS2377ASortedRow.holds Yba.pinned (OpenSpec.ofChange lawS2377ASortedSpec)

/-- ITS FALSE NEIGHBOUR: 'it returns false'. Refute it at one input. -/
def lawS2377ASortedWrong : ChangeSpec := { name := "lawS2377ASorted", fn := fun _ => fun
  | [d] => { results := [.lit (.bool false)], args := [d] }
  | _ => none }
def LawS2377ASortedWrongFalsely : Prop := lawS2377ASortedRow.holds Yba.pinned (OpenSpec.ofChange lawS2377ASortedWrong)

/-- 'model.LawS2377AOrderFree': WHATEVER THE INPUT: true; the input reads as it did. -/
def lawS2377AOrderFreeSpec : ChangeSpec := { name := "lawS2377AOrderFree", fn := fun _ => fun
  | [d] => { results := [.lit (.bool true)], args := [d] }
  | _ => none }
def lawS2377AOrderFreeRow : OpenClaim := { program := "ybulkawey", sum := "c96d4df7d71ea259d0dfa3f8c023a4788cdd3987e565e53002ca5e4ce73979e7", func := "example.com/orderwitness/orderwitness/internal/model.LawS2377AOrderFree", spec := "lawS2377AOrderFree", apart := false }
def LawS2377AOrderFreeSaid : Prop := lawS2377AOrderFreeRow.holds Yba.pinned (OpenSpec.ofChange lawS2377AOrderFreeSpec)

/-- ITS FALSE NEIGHBOUR: 'it returns false'. Refute it at one input. -/
def lawS2377AOrderFreeWrong : ChangeSpec := { name := "lawS2377AOrderFree", fn := fun _ => fun
  | [d] => { results := [.lit (.bool false)], args := [d] }
  | _ => none }
def LawS2377AOrderFreeWrongFalsely : Prop := lawS2377AOrderFreeRow.holds Yba.pinned (OpenSpec.ofChange lawS2377AOrderFreeWrong)

/-- 'model.LawS2377BTable': WHATEVER THE INPUT: true; the input reads as it did. -/
def lawS2377BTableSpec : ChangeSpec := { name := "lawS2377BTable", fn := fun _ => fun
  | [d1, d2, d3, d4, d5, d6] => { results := [.lit (.bool true)], args := [d1, d2, d3, d4, d5, d6] }
  | _ => none }
def lawS2377BTableRow : OpenClaim := { program := "ybulkawey", sum := "c96d4df7d71ea259d0dfa3f8c023a4788cdd3987e565e53002ca5e4ce73979e7", func := "example.com/orderwitness/orderwitness/internal/model.LawS2377BTable", spec := "lawS2377BTable", apart := false }
def LawS2377BTableSaid : Prop := lawS2377BTableRow.holds Yba.pinned (OpenSpec.ofChange lawS2377BTableSpec)

/-- ITS FALSE NEIGHBOUR: 'it returns false'. Refute it at one input. -/
def lawS2377BTableWrong : ChangeSpec := { name := "lawS2377BTable", fn := fun _ => fun
  | [d1, d2, d3, d4, d5, d6] => { results := [.lit (.bool false)], args := [d1, d2, d3, d4, d5, d6] }
  | _ => none }
def LawS2377BTableWrongFalsely : Prop := lawS2377BTableRow.holds Yba.pinned (OpenSpec.ofChange lawS2377BTableWrong)

/-- 'model.LawS2377BEchoes': WHATEVER THE INPUT: true; the input reads as it did. -/
def lawS2377BEchoesSpec : ChangeSpec := { name := "lawS2377BEchoes", fn := fun _ => fun
  | [d1, d2] => { results := [.lit (.bool true)], args := [d1, d2] }
  | _ => none }
def lawS2377BEchoesRow : OpenClaim := { program := "ybulkawey", sum := "c96d4df7d71ea259d0dfa3f8c023a4788cdd3987e565e53002ca5e4ce73979e7", func := "example.com/orderwitness/orderwitness/internal/model.LawS2377BEchoes", spec := "lawS2377BEchoes", apart := false }
def LawS2377BEchoesSaid : Prop := lawS2377BEchoesRow.holds Yba.pinned (OpenSpec.ofChange lawS2377BEchoesSpec)

/-- ITS FALSE NEIGHBOUR: 'it returns false'. Refute it at one input. -/
def lawS2377BEchoesWrong : ChangeSpec := { name := "lawS2377BEchoes", fn := fun _ => fun
  | [d1, d2] => { results := [.lit (.bool false)], args := [d1, d2] }
  | _ => none }
def LawS2377BEchoesWrongFalsely : Prop := lawS2377BEchoesRow.holds Yba.pinned (OpenSpec.ofChange lawS2377BEchoesWrong)

end Rows
end Go.Proofs.Ybulkawey

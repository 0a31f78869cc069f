/-
  No cell of these rows narrows 'for every input' (looked for: loops, veiled, ifaces, maps, wideKeys, modest, calm, conditions, laid).
  DERIVED. THE GIVEN ROWS OF THIS SEAT. 2 by the template 'for every input the law returns true; each argument reads behind the call as it read before'; 0 by the template 'total and deterministic' (their statements: YbulkawfmTotals.lean).
  GIVEN WITH THE SEED: the statements are not yours to turn. If you find one false, say at which input.
  Laid BY PROGRAM, IN A SANDBOX (cutbox-rows.mjs): the forced cells as the released guide's own fill.sh prints them over the translation ffc95483091a3c4b… (all of the seat's roots in one cut). By AI agents, Wed Nov 11 2026. No macro, syntax, notation, axiom, sorry.
-/
import Derived.Test.YbulkawfmChecked
import GoSem.Claim
import GoSem.ClaimJoined
import GoSem.ClaimMapViews
import Derived.JoinedTies
import Derived.KernelRfl
namespace Go.Proofs.Ybulkawfm
/- THE CELL 'sum', in the pinned program and in every row, IS THE sha256 OF THE DUMP (.gsa) THAT YbulkawfmProg.lean LOADS. Nothing in Lean hashes anything: it is a label: what it is worth is what the hold of that sum in a sandbox is worth. -/
noncomputable def Yba.pinned : Pinned := { name := "ybulkawfm", sum := "ffc95483091a3c4b36fe13018364189399ffb6be9ab7b67db146f916e632cacc", checked := Yba.checked }
namespace Rows
def none {H : Type} : Left H := { results := [], args := [] }

/-- 'ocf.LawS2378CEach': WHATEVER THE INPUT: true; the input reads as it did. -/
def lawS2378CEachSpec : ChangeSpec := { name := "lawS2378CEach", fn := fun _ => fun
  | [d] => { results := [.lit (.bool true)], args := [d] }
  | _ => none }
def lawS2378CEachRow : OpenClaim := { program := "ybulkawfm", sum := "ffc95483091a3c4b36fe13018364189399ffb6be9ab7b67db146f916e632cacc", func := "example.com/vestline/vestline/internal/ocf.LawS2378CEach", spec := "lawS2378CEach", apart := false }
def LawS2378CEachSaid : Prop := lawS2378CEachRow.holds Yba.pinned (OpenSpec.ofChange lawS2378CEachSpec)

/-- ITS FALSE NEIGHBOUR: 'it returns false'. Refute it at one input. -/
def lawS2378CEachWrong : ChangeSpec := { name := "lawS2378CEach", fn := fun _ => fun
  | [d] => { results := [.lit (.bool false)], args := [d] }
  | _ => none }
def LawS2378CEachWrongFalsely : Prop := lawS2378CEachRow.holds Yba.pinned (OpenSpec.ofChange lawS2378CEachWrong)

/-- 'ocf.LawS2378CKeepsRoster': WHATEVER THE INPUT: true; the input reads as it did. -/
def lawS2378CKeepsRosterSpec : ChangeSpec := { name := "lawS2378CKeepsRoster", fn := fun _ => fun
  | [d] => { results := [.lit (.bool true)], args := [d] }
  | _ => none }
def lawS2378CKeepsRosterRow : OpenClaim := { program := "ybulkawfm", sum := "ffc95483091a3c4b36fe13018364189399ffb6be9ab7b67db146f916e632cacc", func := "example.com/vestline/vestline/internal/ocf.LawS2378CKeepsRoster", spec := "lawS2378CKeepsRoster", apart := false }
def LawS2378CKeepsRosterSaid : Prop := lawS2378CKeepsRosterRow.holds Yba.pinned (OpenSpec.ofChange lawS2378CKeepsRosterSpec)

/-- ITS FALSE NEIGHBOUR: 'it returns false'. Refute it at one input. -/
def lawS2378CKeepsRosterWrong : ChangeSpec := { name := "lawS2378CKeepsRoster", fn := fun _ => fun
  | [d] => { results := [.lit (.bool false)], args := [d] }
  | _ => none }
def LawS2378CKeepsRosterWrongFalsely : Prop := lawS2378CKeepsRosterRow.holds Yba.pinned (OpenSpec.ofChange lawS2378CKeepsRosterWrong)

end Rows
end Go.Proofs.Ybulkawfm

/-
  No cell of these rows narrows 'for every input' (looked for: loops, veiled, ifaces, maps, wideKeys, modest, calm, conditions, laid).
  DERIVED. THE GIVEN ROWS OF THIS SEAT. 2 by the template 'for every input the law returns true; each argument reads behind the call as it read before'; 0 by the template 'total and deterministic' (their statements: YbulkawekTotals.lean).
  GIVEN WITH THE SEED: the statements are not yours to turn. If you find one false, say at which input.
  Laid BY PROGRAM, IN A SANDBOX (cutbox-rows.mjs): the forced cells as the released guide's own fill.sh prints them over the translation 0d09f97fcd3dfe39… (all of the seat's roots in one cut). By AI agents, Wed Nov 11 2026. No macro, syntax, notation, axiom, sorry.
-/
import Derived.Test.YbulkawekChecked
import GoSem.Claim
import GoSem.ClaimJoined
import GoSem.ClaimMapViews
import Derived.JoinedTies
import Derived.KernelRfl
namespace Go.Proofs.Ybulkawek
/- THE CELL 'sum', in the pinned program and in every row, IS THE sha256 OF THE DUMP (.gsa) THAT YbulkawekProg.lean LOADS. Nothing in Lean hashes anything: it is a label: what it is worth is what the hold of that sum in a sandbox is worth. -/
noncomputable def Yba.pinned : Pinned := { name := "ybulkawek", sum := "0d09f97fcd3dfe39c42374688fc063a2373f2e8615b83d84f43aa2194f5161f5", checked := Yba.checked }
namespace Rows
def none {H : Type} : Left H := { results := [], args := [] }

/-- 'trusted.LawS2376CExact': WHATEVER THE INPUT: true; the input reads as it did. -/
def lawS2376CExactSpec : ChangeSpec := { name := "lawS2376CExact", fn := fun _ => fun
  | [d1, d2, d3, d4, d5, d6, d7, d8, d9, d10] => { results := [.lit (.bool true)], args := [d1, d2, d3, d4, d5, d6, d7, d8, d9, d10] }
  | _ => none }
def lawS2376CExactRow : OpenClaim := { program := "ybulkawek", sum := "0d09f97fcd3dfe39c42374688fc063a2373f2e8615b83d84f43aa2194f5161f5", func := "example.com/castellan/castellan/trusted.LawS2376CExact", spec := "lawS2376CExact", apart := false }
def LawS2376CExactSaid : Prop := lawS2376CExactRow.holds Yba.pinned (OpenSpec.ofChange lawS2376CExactSpec)

/-- ITS FALSE NEIGHBOUR: 'it returns false'. Refute it at one input. -/
def lawS2376CExactWrong : ChangeSpec := { name := "lawS2376CExact", fn := fun _ => fun
  | [d1, d2, d3, d4, d5, d6, d7, d8, d9, d10] => { results := [.lit (.bool false)], args := [d1, d2, d3, d4, d5, d6, d7, d8, d9, d10] }
  | _ => none }
def LawS2376CExactWrongFalsely : Prop := lawS2376CExactRow.holds Yba.pinned (OpenSpec.ofChange lawS2376CExactWrong)

/-- 'trusted.LawS2376CStrictOrder': WHATEVER THE INPUT: true; the input reads as it did. -/
def lawS2376CStrictOrderSpec : ChangeSpec := { name := "lawS2376CStrictOrder", fn := fun _ => fun
  | [d1, d2, d3, d4, d5, d6] => { results := [.lit (.bool true)], args := [d1, d2, d3, d4, d5, d6] }
  | _ => none }
def lawS2376CStrictOrderRow : OpenClaim := { program := "ybulkawek", sum := "0d09f97fcd3dfe39c42374688fc063a2373f2e8615b83d84f43aa2194f5161f5", func := "example.com/castellan/castellan/trusted.LawS2376CStrictOrder", spec := "lawS2376CStrictOrder", apart := false }
def LawS2376CStrictOrderSaid : Prop := lawS2376CStrictOrderRow.holds Yba.pinned (OpenSpec.ofChange lawS2376CStrictOrderSpec)

/-- ITS FALSE NEIGHBOUR: 'it returns false'. Refute it at one input. -/
def lawS2376CStrictOrderWrong : ChangeSpec := { name := "lawS2376CStrictOrder", fn := fun _ => fun
  | [d1, d2, d3, d4, d5, d6] => { results := [.lit (.bool false)], args := [d1, d2, d3, d4, d5, d6] }
  | _ => none }
def LawS2376CStrictOrderWrongFalsely : Prop := lawS2376CStrictOrderRow.holds Yba.pinned (OpenSpec.ofChange lawS2376CStrictOrderWrong)

end Rows
end Go.Proofs.Ybulkawek

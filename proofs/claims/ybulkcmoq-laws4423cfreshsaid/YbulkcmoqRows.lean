/-
  No cell of these rows narrows 'for every input' (looked for: loops, veiled, ifaces, maps, wideKeys, modest, calm, conditions, laid).
  DERIVED. THE GIVEN ROWS OF THIS SEAT. 4 by the template 'for every input the law returns true; each argument reads behind the call as it read before'; 0 by the template 'total and deterministic' (their statements: YbulkcmoqTotals.lean).
  GIVEN WITH THE SEED: the statements are not yours to turn. If you find one false, say at which input.
  Laid BY PROGRAM, IN A SANDBOX (cutbox-rows.mjs): the forced cells as the released guide's own fill.sh prints them over the translation 105dfcb11b87f61e… (all of the seat's roots in one cut). By AI agents, Wed Nov 11 2026. No macro, syntax, notation, axiom, sorry.
-/
import Derived.Test.YbulkcmoqChecked
import GoSem.Claim
import GoSem.ClaimJoined
import GoSem.ClaimMapViews
import Derived.JoinedTies
import Derived.KernelRfl
namespace Go.Proofs.Ybulkcmoq
/- THE CELL 'sum', in the pinned program and in every row, IS THE sha256 OF THE DUMP (.gsa) THAT YbulkcmoqProg.lean LOADS. Nothing in Lean hashes anything: it is a label: what it is worth is what the hold of that sum in a sandbox is worth. -/
noncomputable def Yba.pinned : Pinned := { name := "ybulkcmoq", sum := "105dfcb11b87f61ed2dc78de767c4d0e983b6f884e3b92654735bd93d9d0dc59", checked := Yba.checked }
namespace Rows
def none {H : Type} : Left H := { results := [], args := [] }

/-- 'tiered-roles.LawS4423ATable': WHATEVER THE INPUT: true; the input reads as it did. -/
def lawS4423ATableSpec : ChangeSpec := { name := "lawS4423ATable", fn := fun _ => fun
  | [d] => { results := [.lit (.bool true)], args := [d] }
  | _ => none }
def lawS4423ATableRow : OpenClaim := { program := "ybulkcmoq", sum := "105dfcb11b87f61ed2dc78de767c4d0e983b6f884e3b92654735bd93d9d0dc59", func := "example.com/tiered-roles/tiered-roles.LawS4423ATable", spec := "lawS4423ATable", apart := false }
def LawS4423ATableSaid : Prop := lawS4423ATableRow.holds Yba.pinned (OpenSpec.ofChange lawS4423ATableSpec)

/-- ITS FALSE NEIGHBOUR: 'it returns false'. Refute it at one input. -/
def lawS4423ATableWrong : ChangeSpec := { name := "lawS4423ATable", fn := fun _ => fun
  | [d] => { results := [.lit (.bool false)], args := [d] }
  | _ => none }
def LawS4423ATableWrongFalsely : Prop := lawS4423ATableRow.holds Yba.pinned (OpenSpec.ofChange lawS4423ATableWrong)

/-- 'tiered-roles.LawS4423AConsts': WHATEVER THE INPUT: true; the input reads as it did. -/
def lawS4423AConstsSpec : ChangeSpec := { name := "lawS4423AConsts", fn := fun _ => fun
  | [d] => { results := [.lit (.bool true)], args := [d] }
  | _ => none }
def lawS4423AConstsRow : OpenClaim := { program := "ybulkcmoq", sum := "105dfcb11b87f61ed2dc78de767c4d0e983b6f884e3b92654735bd93d9d0dc59", func := "example.com/tiered-roles/tiered-roles.LawS4423AConsts", spec := "lawS4423AConsts", apart := false }
def LawS4423AConstsSaid : Prop := lawS4423AConstsRow.holds Yba.pinned (OpenSpec.ofChange lawS4423AConstsSpec)

/-- ITS FALSE NEIGHBOUR: 'it returns false'. Refute it at one input. -/
def lawS4423AConstsWrong : ChangeSpec := { name := "lawS4423AConsts", fn := fun _ => fun
  | [d] => { results := [.lit (.bool false)], args := [d] }
  | _ => none }
def LawS4423AConstsWrongFalsely : Prop := lawS4423AConstsRow.holds Yba.pinned (OpenSpec.ofChange lawS4423AConstsWrong)

/-- 'tiered-roles.LawS4423CModel': WHATEVER THE INPUT: true; the input reads as it did. -/
def lawS4423CModelSpec : ChangeSpec := { name := "lawS4423CModel", fn := fun _ => fun
  | [d1, d2] => { results := [.lit (.bool true)], args := [d1, d2] }
  | _ => none }
def lawS4423CModelRow : OpenClaim := { program := "ybulkcmoq", sum := "105dfcb11b87f61ed2dc78de767c4d0e983b6f884e3b92654735bd93d9d0dc59", func := "example.com/tiered-roles/tiered-roles.LawS4423CModel", spec := "lawS4423CModel", inPlace := ["internal/bytealg.abigen_runtime_cmpstring"], unfollowed := true, recurses := true, apart := false }
def LawS4423CModelSaid : Prop := lawS4423CModelRow.holds Yba.pinned (OpenSpec.ofChange lawS4423CModelSpec)

/-- ITS FALSE NEIGHBOUR: 'it returns false'. Refute it at one input. -/
def lawS4423CModelWrong : ChangeSpec := { name := "lawS4423CModel", fn := fun _ => fun
  | [d1, d2] => { results := [.lit (.bool false)], args := [d1, d2] }
  | _ => none }
def LawS4423CModelWrongFalsely : Prop := lawS4423CModelRow.holds Yba.pinned (OpenSpec.ofChange lawS4423CModelWrong)

/-- 'tiered-roles.LawS4423CFresh': WHATEVER THE INPUT: true; the input reads as it did. -/
def lawS4423CFreshSpec : ChangeSpec := { name := "lawS4423CFresh", fn := fun _ => fun
  | [d1, d2] => { results := [.lit (.bool true)], args := [d1, d2] }
  | _ => none }
def lawS4423CFreshRow : OpenClaim := { program := "ybulkcmoq", sum := "105dfcb11b87f61ed2dc78de767c4d0e983b6f884e3b92654735bd93d9d0dc59", func := "example.com/tiered-roles/tiered-roles.LawS4423CFresh", spec := "lawS4423CFresh", inPlace := ["internal/bytealg.abigen_runtime_cmpstring"], unfollowed := true, recurses := true, apart := false }
def LawS4423CFreshSaid : Prop := lawS4423CFreshRow.holds Yba.pinned (OpenSpec.ofChange lawS4423CFreshSpec)

/-- ITS FALSE NEIGHBOUR: 'it returns false'. Refute it at one input. -/
def lawS4423CFreshWrong : ChangeSpec := { name := "lawS4423CFresh", fn := fun _ => fun
  | [d1, d2] => { results := [.lit (.bool false)], args := [d1, d2] }
  | _ => none }
def LawS4423CFreshWrongFalsely : Prop := lawS4423CFreshRow.holds Yba.pinned (OpenSpec.ofChange lawS4423CFreshWrong)

end Rows
end Go.Proofs.Ybulkcmoq

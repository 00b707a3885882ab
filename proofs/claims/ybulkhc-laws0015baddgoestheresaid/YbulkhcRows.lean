/-
  No cell of these rows narrows 'for every input' (looked for: loops, veiled, ifaces, maps, wideKeys, modest, calm, conditions, laid).
  DERIVED. THE GIVEN ROWS OF THIS SEAT. 4 by the template 'for every input the law returns true; each argument reads behind the call as it read before'; 0 by the template 'total and deterministic' (their statements: YbulkhcTotals.lean).
  GIVEN WITH THE SEED: the statements are not yours to turn. If you find one false, say at which input.
  Laid BY PROGRAM, IN A SANDBOX (cutbox-rows.mjs): the forced cells as the released guide's own fill.sh prints them over the translation e436606615a4d962… (all of the seat's roots in one cut). By AI agents, Wed Nov 11 2026. No macro, syntax, notation, axiom, sorry.
-/
import Derived.Test.YbulkhcChecked
import GoSem.Claim
import GoSem.ClaimJoined
import GoSem.ClaimMapViews
import Derived.JoinedTies
import Derived.KernelRfl
namespace Go.Proofs.Ybulkhc
/- THE CELL 'sum', in the pinned program and in every row, IS THE sha256 OF THE DUMP (.gsa) THAT YbulkhcProg.lean LOADS. Nothing in Lean hashes anything: it is a label: what it is worth is what the hold of that sum in a sandbox is worth. -/
noncomputable def Yba.pinned : Pinned := { name := "ybulkhc", sum := "e436606615a4d96240c795bb59b2cd311015f79a1905657474542552b9185fa4", checked := Yba.checked }
namespace Rows
def none {H : Type} : Left H := { results := [], args := [] }

/-- 'loach.LawS0015BTarget': WHATEVER THE INPUT: true; the input reads as it did. -/
def lawS0015BTargetSpec : ChangeSpec := { name := "lawS0015BTarget", fn := fun _ => fun
  | [d1, d2] => { results := [.lit (.bool true)], args := [d1, d2] }
  | _ => none }
def lawS0015BTargetRow : OpenClaim := { program := "ybulkhc", sum := "e436606615a4d96240c795bb59b2cd311015f79a1905657474542552b9185fa4", func := "example.com/loach/loach.LawS0015BTarget", spec := "lawS0015BTarget", apart := false }
def LawS0015BTargetSaid : Prop := lawS0015BTargetRow.holds Yba.pinned (OpenSpec.ofChange lawS0015BTargetSpec)

/-- ITS FALSE NEIGHBOUR: 'it returns false'. Refute it at one input. -/
def lawS0015BTargetWrong : ChangeSpec := { name := "lawS0015BTarget", fn := fun _ => fun
  | [d1, d2] => { results := [.lit (.bool false)], args := [d1, d2] }
  | _ => none }
def LawS0015BTargetWrongFalsely : Prop := lawS0015BTargetRow.holds Yba.pinned (OpenSpec.ofChange lawS0015BTargetWrong)

/-- 'loach.LawS0015BAddGoesThere': WHATEVER THE INPUT: true; the input reads as it did. -/
def lawS0015BAddGoesThereSpec : ChangeSpec := { name := "lawS0015BAddGoesThere", fn := fun _ => fun
  | [d1, d2] => { results := [.lit (.bool true)], args := [d1, d2] }
  | _ => none }
def lawS0015BAddGoesThereRow : OpenClaim := { program := "ybulkhc", sum := "e436606615a4d96240c795bb59b2cd311015f79a1905657474542552b9185fa4", func := "example.com/loach/loach.LawS0015BAddGoesThere", spec := "lawS0015BAddGoesThere", apart := false }
def LawS0015BAddGoesThereSaid : Prop := lawS0015BAddGoesThereRow.holds Yba.pinned (OpenSpec.ofChange lawS0015BAddGoesThereSpec)

/-- ITS FALSE NEIGHBOUR: 'it returns false'. Refute it at one input. -/
def lawS0015BAddGoesThereWrong : ChangeSpec := { name := "lawS0015BAddGoesThere", fn := fun _ => fun
  | [d1, d2] => { results := [.lit (.bool false)], args := [d1, d2] }
  | _ => none }
def LawS0015BAddGoesThereWrongFalsely : Prop := lawS0015BAddGoesThereRow.holds Yba.pinned (OpenSpec.ofChange lawS0015BAddGoesThereWrong)

/-- 'loach.LawS0015CExact': WHATEVER THE INPUT: true; the input reads as it did. -/
def lawS0015CExactSpec : ChangeSpec := { name := "lawS0015CExact", fn := fun _ => fun
  | [d] => { results := [.lit (.bool true)], args := [d] }
  | _ => none }
def lawS0015CExactRow : OpenClaim := { program := "ybulkhc", sum := "e436606615a4d96240c795bb59b2cd311015f79a1905657474542552b9185fa4", func := "example.com/loach/loach.LawS0015CExact", spec := "lawS0015CExact", apart := false }
def LawS0015CExactSaid : Prop := lawS0015CExactRow.holds Yba.pinned (OpenSpec.ofChange lawS0015CExactSpec)

/-- ITS FALSE NEIGHBOUR: 'it returns false'. Refute it at one input. -/
def lawS0015CExactWrong : ChangeSpec := { name := "lawS0015CExact", fn := fun _ => fun
  | [d] => { results := [.lit (.bool false)], args := [d] }
  | _ => none }
def LawS0015CExactWrongFalsely : Prop := lawS0015CExactRow.holds Yba.pinned (OpenSpec.ofChange lawS0015CExactWrong)

/-- 'loach.LawS0015CBuilt': WHATEVER THE INPUT: true; the input reads as it did. -/
def lawS0015CBuiltSpec : ChangeSpec := { name := "lawS0015CBuilt", fn := fun _ => fun
  | [d1, d2, d3] => { results := [.lit (.bool true)], args := [d1, d2, d3] }
  | _ => none }
def lawS0015CBuiltRow : OpenClaim := { program := "ybulkhc", sum := "e436606615a4d96240c795bb59b2cd311015f79a1905657474542552b9185fa4", func := "example.com/loach/loach.LawS0015CBuilt", spec := "lawS0015CBuilt", apart := false }
def LawS0015CBuiltSaid : Prop := lawS0015CBuiltRow.holds Yba.pinned (OpenSpec.ofChange lawS0015CBuiltSpec)

/-- ITS FALSE NEIGHBOUR: 'it returns false'. Refute it at one input. -/
def lawS0015CBuiltWrong : ChangeSpec := { name := "lawS0015CBuilt", fn := fun _ => fun
  | [d1, d2, d3] => { results := [.lit (.bool false)], args := [d1, d2, d3] }
  | _ => none }
def LawS0015CBuiltWrongFalsely : Prop := lawS0015CBuiltRow.holds Yba.pinned (OpenSpec.ofChange lawS0015CBuiltWrong)

end Rows
end Go.Proofs.Ybulkhc

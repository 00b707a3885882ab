/-
  No cell of these rows narrows 'for every input' (looked for: loops, veiled, ifaces, maps, wideKeys, modest, calm, conditions, laid).
  DERIVED. THE GIVEN ROWS OF THIS SEAT. 4 by the template 'for every input the law returns true; each argument reads behind the call as it read before'; 0 by the template 'total and deterministic' (their statements: YbulkhqTotals.lean).
  GIVEN WITH THE SEED: the statements are not yours to turn. If you find one false, say at which input.
  Laid BY PROGRAM, IN A SANDBOX (cutbox-rows.mjs): the forced cells as the released guide's own fill.sh prints them over the translation c4ad19a3f8466a96… (all of the seat's roots in one cut). By AI agents, Wed Nov 11 2026. No macro, syntax, notation, axiom, sorry.
-/
import Derived.Test.YbulkhqChecked
import GoSem.Claim
import GoSem.ClaimJoined
import GoSem.ClaimMapViews
import Derived.JoinedTies
import Derived.KernelRfl
namespace Go.Proofs.Ybulkhq
/- THE CELL 'sum', in the pinned program and in every row, IS THE sha256 OF THE DUMP (.gsa) THAT YbulkhqProg.lean LOADS. Nothing in Lean hashes anything: it is a label: what it is worth is what the hold of that sum in a sandbox is worth. -/
noncomputable def Yba.pinned : Pinned := { name := "ybulkhq", sum := "c4ad19a3f8466a96c6a12beaea2417de03c4d221350975039854a92a9715b3dc", checked := Yba.checked }
namespace Rows
def none {H : Type} : Left H := { results := [], args := [] }

/-- 'sched.LawS0016BLast': WHATEVER THE INPUT: true; the input reads as it did. -/
def lawS0016BLastSpec : ChangeSpec := { name := "lawS0016BLast", fn := fun _ => fun
  | [d] => { results := [.lit (.bool true)], args := [d] }
  | _ => none }
def lawS0016BLastRow : OpenClaim := { program := "ybulkhq", sum := "c4ad19a3f8466a96c6a12beaea2417de03c4d221350975039854a92a9715b3dc", func := "example.com/kendall/kendall/sched.LawS0016BLast", spec := "lawS0016BLast", apart := false }
def LawS0016BLastSaid : Prop := lawS0016BLastRow.holds Yba.pinned (OpenSpec.ofChange lawS0016BLastSpec)

/-- ITS FALSE NEIGHBOUR: 'it returns false'. Refute it at one input. -/
def lawS0016BLastWrong : ChangeSpec := { name := "lawS0016BLast", fn := fun _ => fun
  | [d] => { results := [.lit (.bool false)], args := [d] }
  | _ => none }
def LawS0016BLastWrongFalsely : Prop := lawS0016BLastRow.holds Yba.pinned (OpenSpec.ofChange lawS0016BLastWrong)

/-- 'sched.LawS0016BPushPop': WHATEVER THE INPUT: true; the input reads as it did. -/
def lawS0016BPushPopSpec : ChangeSpec := { name := "lawS0016BPushPop", fn := fun _ => fun
  | [d1, d2] => { results := [.lit (.bool true)], args := [d1, d2] }
  | _ => none }
def lawS0016BPushPopRow : OpenClaim := { program := "ybulkhq", sum := "c4ad19a3f8466a96c6a12beaea2417de03c4d221350975039854a92a9715b3dc", func := "example.com/kendall/kendall/sched.LawS0016BPushPop", spec := "lawS0016BPushPop", apart := false }
def LawS0016BPushPopSaid : Prop := lawS0016BPushPopRow.holds Yba.pinned (OpenSpec.ofChange lawS0016BPushPopSpec)

/-- ITS FALSE NEIGHBOUR: 'it returns false'. Refute it at one input. -/
def lawS0016BPushPopWrong : ChangeSpec := { name := "lawS0016BPushPop", fn := fun _ => fun
  | [d1, d2] => { results := [.lit (.bool false)], args := [d1, d2] }
  | _ => none }
def LawS0016BPushPopWrongFalsely : Prop := lawS0016BPushPopRow.holds Yba.pinned (OpenSpec.ofChange lawS0016BPushPopWrong)

/-- 'vm.LawS0016CShape': WHATEVER THE INPUT: true; the input reads as it did. -/
def lawS0016CShapeSpec : ChangeSpec := { name := "lawS0016CShape", fn := fun _ => fun
  | [d1, d2, d3] => { results := [.lit (.bool true)], args := [d1, d2, d3] }
  | _ => none }
def lawS0016CShapeRow : OpenClaim := { program := "ybulkhq", sum := "c4ad19a3f8466a96c6a12beaea2417de03c4d221350975039854a92a9715b3dc", func := "example.com/kendall/kendall/vm.LawS0016CShape", spec := "lawS0016CShape", apart := false }
def LawS0016CShapeSaid : Prop := lawS0016CShapeRow.holds Yba.pinned (OpenSpec.ofChange lawS0016CShapeSpec)

/-- ITS FALSE NEIGHBOUR: 'it returns false'. Refute it at one input. -/
def lawS0016CShapeWrong : ChangeSpec := { name := "lawS0016CShape", fn := fun _ => fun
  | [d1, d2, d3] => { results := [.lit (.bool false)], args := [d1, d2, d3] }
  | _ => none }
def LawS0016CShapeWrongFalsely : Prop := lawS0016CShapeRow.holds Yba.pinned (OpenSpec.ofChange lawS0016CShapeWrong)

/-- 'vm.LawS0016CFresh': WHATEVER THE INPUT: true; the input reads as it did. -/
def lawS0016CFreshSpec : ChangeSpec := { name := "lawS0016CFresh", fn := fun _ => fun
  | [d1, d2] => { results := [.lit (.bool true)], args := [d1, d2] }
  | _ => none }
def lawS0016CFreshRow : OpenClaim := { program := "ybulkhq", sum := "c4ad19a3f8466a96c6a12beaea2417de03c4d221350975039854a92a9715b3dc", func := "example.com/kendall/kendall/vm.LawS0016CFresh", spec := "lawS0016CFresh", apart := false }
def LawS0016CFreshSaid : Prop := lawS0016CFreshRow.holds Yba.pinned (OpenSpec.ofChange lawS0016CFreshSpec)

/-- ITS FALSE NEIGHBOUR: 'it returns false'. Refute it at one input. -/
def lawS0016CFreshWrong : ChangeSpec := { name := "lawS0016CFresh", fn := fun _ => fun
  | [d1, d2] => { results := [.lit (.bool false)], args := [d1, d2] }
  | _ => none }
def LawS0016CFreshWrongFalsely : Prop := lawS0016CFreshRow.holds Yba.pinned (OpenSpec.ofChange lawS0016CFreshWrong)

end Rows
end Go.Proofs.Ybulkhq

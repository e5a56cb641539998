/-
  No cell of these rows narrows 'for every input' (looked for: loops, veiled, ifaces, maps, wideKeys, modest, calm, conditions, laid).
  DERIVED. THE GIVEN ROWS OF THIS SEAT. 2 by the template 'for every input the law returns true; each argument reads behind the call as it read before'; 0 by the template 'total and deterministic' (their statements: YbulkleeTotals.lean).
  GIVEN WITH THE SEED: the statements are not yours to turn. If you find one false, say at which input.
  Laid BY PROGRAM, IN A SANDBOX (cutbox-rows.mjs): the forced cells as the released guide's own fill.sh prints them over the translation c0cf931738126b1f… (all of the seat's roots in one cut). By AI agents, Wed Nov 11 2026. No macro, syntax, notation, axiom, sorry.
-/
import Derived.Test.YbulkleeChecked
import GoSem.Claim
import GoSem.ClaimJoined
import GoSem.ClaimMapViews
import Derived.JoinedTies
import Derived.KernelRfl
namespace Go.Proofs.Ybulklee
/- THE CELL 'sum', in the pinned program and in every row, IS THE sha256 OF THE DUMP (.gsa) THAT YbulkleeProg.lean LOADS. Nothing in Lean hashes anything: it is a label: what it is worth is what the hold of that sum in a sandbox is worth. -/
noncomputable def Yba.pinned : Pinned := { name := "ybulklee", sum := "c0cf931738126b1fe9ecf11bbe038725392a81828ab72a51b21a596cc69c7b11", checked := Yba.checked }
namespace Rows
def none {H : Type} : Left H := { results := [], args := [] }

/-- 'jot3.LawS0589AModel': WHATEVER THE INPUT: true; the input reads as it did. -/
def lawS0589AModelSpec : ChangeSpec := { name := "lawS0589AModel", fn := fun _ => fun
  | [d1, d2] => { results := [.lit (.bool true)], args := [d1, d2] }
  | _ => none }
def lawS0589AModelRow : OpenClaim := { program := "ybulklee", sum := "c0cf931738126b1fe9ecf11bbe038725392a81828ab72a51b21a596cc69c7b11", func := "example.com/jot3/jot3.LawS0589AModel", spec := "lawS0589AModel", apart := false }
def LawS0589AModelSaid : Prop := lawS0589AModelRow.holds Yba.pinned (OpenSpec.ofChange lawS0589AModelSpec)

/-- ITS FALSE NEIGHBOUR: 'it returns false'. Refute it at one input. -/
def lawS0589AModelWrong : ChangeSpec := { name := "lawS0589AModel", fn := fun _ => fun
  | [d1, d2] => { results := [.lit (.bool false)], args := [d1, d2] }
  | _ => none }
def LawS0589AModelWrongFalsely : Prop := lawS0589AModelRow.holds Yba.pinned (OpenSpec.ofChange lawS0589AModelWrong)

/-- 'jot3.LawS0589AExtend': WHATEVER THE INPUT: true; the input reads as it did. -/
def lawS0589AExtendSpec : ChangeSpec := { name := "lawS0589AExtend", fn := fun _ => fun
  | [d1, d2, d3] => { results := [.lit (.bool true)], args := [d1, d2, d3] }
  | _ => none }
def lawS0589AExtendRow : OpenClaim := { program := "ybulklee", sum := "c0cf931738126b1fe9ecf11bbe038725392a81828ab72a51b21a596cc69c7b11", func := "example.com/jot3/jot3.LawS0589AExtend", spec := "lawS0589AExtend", apart := false }
def LawS0589AExtendSaid : Prop := lawS0589AExtendRow.holds Yba.pinned (OpenSpec.ofChange lawS0589AExtendSpec)

/-- ITS FALSE NEIGHBOUR: 'it returns false'. Refute it at one input. -/
def lawS0589AExtendWrong : ChangeSpec := { name := "lawS0589AExtend", fn := fun _ => fun
  | [d1, d2, d3] => { results := [.lit (.bool false)], args := [d1, d2, d3] }
  | _ => none }
def LawS0589AExtendWrongFalsely : Prop := lawS0589AExtendRow.holds Yba.pinned (OpenSpec.ofChange lawS0589AExtendWrong)

end Rows
end Go.Proofs.Ybulklee

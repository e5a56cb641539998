/-
  No cell of these rows narrows 'for every input' (looked for: loops, veiled, ifaces, maps, wideKeys, modest, calm, conditions, laid).
  DERIVED. THE GIVEN ROWS OF THIS SEAT. 3 by the template 'for every input the law returns true; each argument reads behind the call as it read before'; 0 by the template 'total and deterministic' (their statements: YbulklbmTotals.lean).
  GIVEN WITH THE SEED: the statements are not yours to turn. If you find one false, say at which input.
  Laid BY PROGRAM, IN A SANDBOX (cutbox-rows.mjs): the forced cells as the released guide's own fill.sh prints them over the translation adaba69566ef2c3f… (all of the seat's roots in one cut). By AI agents, Wed Nov 11 2026. No macro, syntax, notation, axiom, sorry.
-/
import Derived.Test.YbulklbmChecked
import GoSem.Claim
import GoSem.ClaimJoined
import GoSem.ClaimMapViews
import Derived.JoinedTies
import Derived.KernelRfl
namespace Go.Proofs.Ybulklbm
/- THE CELL 'sum', in the pinned program and in every row, IS THE sha256 OF THE DUMP (.gsa) THAT YbulklbmProg.lean LOADS. Nothing in Lean hashes anything: it is a label: what it is worth is what the hold of that sum in a sandbox is worth. -/
noncomputable def Yba.pinned : Pinned := { name := "ybulklbm", sum := "adaba69566ef2c3fa7266a3952141ce95cab9b01ac12292f699f230929395af1", checked := Yba.checked }
namespace Rows
def none {H : Type} : Left H := { results := [], args := [] }

/-- 'term.LawS0584BSignature': WHATEVER THE INPUT: true; the input reads as it did. -/
def lawS0584BSignatureSpec : ChangeSpec := { name := "lawS0584BSignature", fn := fun _ => fun
  | [d1, d2, d3, d4] => { results := [.lit (.bool true)], args := [d1, d2, d3, d4] }
  | _ => none }
def lawS0584BSignatureRow : OpenClaim := { program := "ybulklbm", sum := "adaba69566ef2c3fa7266a3952141ce95cab9b01ac12292f699f230929395af1", func := "example.com/relweave/relweave/term.LawS0584BSignature", spec := "lawS0584BSignature", unfollowed := true, recurses := true, plainKeys := false, apart := false }
def LawS0584BSignatureSaid : Prop := lawS0584BSignatureRow.holds Yba.pinned (OpenSpec.ofChange lawS0584BSignatureSpec)

/-- ITS FALSE NEIGHBOUR: 'it returns false'. Refute it at one input. -/
def lawS0584BSignatureWrong : ChangeSpec := { name := "lawS0584BSignature", fn := fun _ => fun
  | [d1, d2, d3, d4] => { results := [.lit (.bool false)], args := [d1, d2, d3, d4] }
  | _ => none }
def LawS0584BSignatureWrongFalsely : Prop := lawS0584BSignatureRow.holds Yba.pinned (OpenSpec.ofChange lawS0584BSignatureWrong)

/-- 'term.LawS0584CSkip': WHATEVER THE INPUT: true; the input reads as it did. -/
def lawS0584CSkipSpec : ChangeSpec := { name := "lawS0584CSkip", fn := fun _ => fun
  | [d1, d2, d3, d4] => { results := [.lit (.bool true)], args := [d1, d2, d3, d4] }
  | _ => none }
def lawS0584CSkipRow : OpenClaim := { program := "ybulklbm", sum := "adaba69566ef2c3fa7266a3952141ce95cab9b01ac12292f699f230929395af1", func := "example.com/relweave/relweave/term.LawS0584CSkip", spec := "lawS0584CSkip", plainKeys := false, apart := false }
def LawS0584CSkipSaid : Prop := lawS0584CSkipRow.holds Yba.pinned (OpenSpec.ofChange lawS0584CSkipSpec)

/-- ITS FALSE NEIGHBOUR: 'it returns false'. Refute it at one input. -/
def lawS0584CSkipWrong : ChangeSpec := { name := "lawS0584CSkip", fn := fun _ => fun
  | [d1, d2, d3, d4] => { results := [.lit (.bool false)], args := [d1, d2, d3, d4] }
  | _ => none }
def LawS0584CSkipWrongFalsely : Prop := lawS0584CSkipRow.holds Yba.pinned (OpenSpec.ofChange lawS0584CSkipWrong)

/-- 'term.LawS0584CIdem': WHATEVER THE INPUT: true; the input reads as it did. -/
def lawS0584CIdemSpec : ChangeSpec := { name := "lawS0584CIdem", fn := fun _ => fun
  | [d1, d2, d3, d4] => { results := [.lit (.bool true)], args := [d1, d2, d3, d4] }
  | _ => none }
def lawS0584CIdemRow : OpenClaim := { program := "ybulklbm", sum := "adaba69566ef2c3fa7266a3952141ce95cab9b01ac12292f699f230929395af1", func := "example.com/relweave/relweave/term.LawS0584CIdem", spec := "lawS0584CIdem", plainKeys := false, apart := false }
def LawS0584CIdemSaid : Prop := lawS0584CIdemRow.holds Yba.pinned (OpenSpec.ofChange lawS0584CIdemSpec)

/-- ITS FALSE NEIGHBOUR: 'it returns false'. Refute it at one input. -/
def lawS0584CIdemWrong : ChangeSpec := { name := "lawS0584CIdem", fn := fun _ => fun
  | [d1, d2, d3, d4] => { results := [.lit (.bool false)], args := [d1, d2, d3, d4] }
  | _ => none }
def LawS0584CIdemWrongFalsely : Prop := lawS0584CIdemRow.holds Yba.pinned (OpenSpec.ofChange lawS0584CIdemWrong)

end Rows
end Go.Proofs.Ybulklbm

/-
  No cell of these rows narrows 'for every input' (looked for: loops, veiled, ifaces, maps, wideKeys, modest, calm, conditions, laid).
  DERIVED. THE GIVEN ROWS OF THIS SEAT. 5 by the template 'for every input the law returns true; each argument reads behind the call as it read before'; 0 by the template 'total and deterministic' (their statements: YbulkkyuTotals.lean).
  GIVEN WITH THE SEED: the statements are not yours to turn. If you find one false, say at which input.
  Laid BY PROGRAM, IN A SANDBOX (cutbox-rows.mjs): the forced cells as the released guide's own fill.sh prints them over the translation f5d8a1fefc90deb0… (all of the seat's roots in one cut). By AI agents, Wed Nov 11 2026. No macro, syntax, notation, axiom, sorry.
-/
import Derived.Test.YbulkkyuChecked
import GoSem.Claim
import GoSem.ClaimJoined
import GoSem.ClaimMapViews
import Derived.JoinedTies
import Derived.KernelRfl
namespace Go.Proofs.Ybulkkyu
/- THE CELL 'sum', in the pinned program and in every row, IS THE sha256 OF THE DUMP (.gsa) THAT YbulkkyuProg.lean LOADS. Nothing in Lean hashes anything: it is a label: what it is worth is what the hold of that sum in a sandbox is worth. -/
noncomputable def Yba.pinned : Pinned := { name := "ybulkkyu", sum := "f5d8a1fefc90deb0d38c810afa6895a07e00ca006846fd0b554ce633b7c9daae", checked := Yba.checked }
namespace Rows
def none {H : Type} : Left H := { results := [], args := [] }

/-- 'diff.LawS0579ASplitKeepsLCS': WHATEVER THE INPUT: true; the input reads as it did. -/
def lawS0579ASplitKeepsLCSSpec : ChangeSpec := { name := "lawS0579ASplitKeepsLCS", fn := fun _ => fun
  | [d1, d2, d3, d4, d5, d6] => { results := [.lit (.bool true)], args := [d1, d2, d3, d4, d5, d6] }
  | _ => none }
def lawS0579ASplitKeepsLCSRow : OpenClaim := { program := "ybulkkyu", sum := "f5d8a1fefc90deb0d38c810afa6895a07e00ca006846fd0b554ce633b7c9daae", func := "example.com/tributary/tributary/internal/diff.LawS0579ASplitKeepsLCS", spec := "lawS0579ASplitKeepsLCS", unfollowed := true, recurses := true, apart := false }
def LawS0579ASplitKeepsLCSSaid : Prop := lawS0579ASplitKeepsLCSRow.holds Yba.pinned (OpenSpec.ofChange lawS0579ASplitKeepsLCSSpec)

/-- ITS FALSE NEIGHBOUR: 'it returns false'. Refute it at one input. -/
def lawS0579ASplitKeepsLCSWrong : ChangeSpec := { name := "lawS0579ASplitKeepsLCS", fn := fun _ => fun
  | [d1, d2, d3, d4, d5, d6] => { results := [.lit (.bool false)], args := [d1, d2, d3, d4, d5, d6] }
  | _ => none }
def LawS0579ASplitKeepsLCSWrongFalsely : Prop := lawS0579ASplitKeepsLCSRow.holds Yba.pinned (OpenSpec.ofChange lawS0579ASplitKeepsLCSWrong)

/-- 'rcs.LawS0579BModel': WHATEVER THE INPUT: true; the input reads as it did. -/
def lawS0579BModelSpec : ChangeSpec := { name := "lawS0579BModel", fn := fun _ => fun
  | [d1, d2, d3, d4] => { results := [.lit (.bool true)], args := [d1, d2, d3, d4] }
  | _ => none }
def lawS0579BModelRow : OpenClaim := { program := "ybulkkyu", sum := "f5d8a1fefc90deb0d38c810afa6895a07e00ca006846fd0b554ce633b7c9daae", func := "example.com/tributary/tributary/internal/rcs.LawS0579BModel", spec := "lawS0579BModel", inPlace := ["slices.overlaps[example.com/tributary/tributary/internal/rcs.Symbol]"], unfollowed := true, recurses := true, apart := false }
def LawS0579BModelSaid : Prop := lawS0579BModelRow.holds Yba.pinned (OpenSpec.ofChange lawS0579BModelSpec)

/-- ITS FALSE NEIGHBOUR: 'it returns false'. Refute it at one input. -/
def lawS0579BModelWrong : ChangeSpec := { name := "lawS0579BModel", fn := fun _ => fun
  | [d1, d2, d3, d4] => { results := [.lit (.bool false)], args := [d1, d2, d3, d4] }
  | _ => none }
def LawS0579BModelWrongFalsely : Prop := lawS0579BModelRow.holds Yba.pinned (OpenSpec.ofChange lawS0579BModelWrong)

/-- 'rcs.LawS0579BLookup': WHATEVER THE INPUT: true; the input reads as it did. -/
def lawS0579BLookupSpec : ChangeSpec := { name := "lawS0579BLookup", fn := fun _ => fun
  | [d1, d2, d3, d4] => { results := [.lit (.bool true)], args := [d1, d2, d3, d4] }
  | _ => none }
def lawS0579BLookupRow : OpenClaim := { program := "ybulkkyu", sum := "f5d8a1fefc90deb0d38c810afa6895a07e00ca006846fd0b554ce633b7c9daae", func := "example.com/tributary/tributary/internal/rcs.LawS0579BLookup", spec := "lawS0579BLookup", inPlace := ["slices.overlaps[example.com/tributary/tributary/internal/rcs.Symbol]"], unfollowed := true, recurses := true, apart := false }
def LawS0579BLookupSaid : Prop := lawS0579BLookupRow.holds Yba.pinned (OpenSpec.ofChange lawS0579BLookupSpec)

/-- ITS FALSE NEIGHBOUR: 'it returns false'. Refute it at one input. -/
def lawS0579BLookupWrong : ChangeSpec := { name := "lawS0579BLookup", fn := fun _ => fun
  | [d1, d2, d3, d4] => { results := [.lit (.bool false)], args := [d1, d2, d3, d4] }
  | _ => none }
def LawS0579BLookupWrongFalsely : Prop := lawS0579BLookupRow.holds Yba.pinned (OpenSpec.ofChange lawS0579BLookupWrong)

/-- 'rcs.LawS0579CExact': WHATEVER THE INPUT: true; the input reads as it did. -/
def lawS0579CExactSpec : ChangeSpec := { name := "lawS0579CExact", fn := fun _ => fun
  | [d1, d2] => { results := [.lit (.bool true)], args := [d1, d2] }
  | _ => none }
def lawS0579CExactRow : OpenClaim := { program := "ybulkkyu", sum := "f5d8a1fefc90deb0d38c810afa6895a07e00ca006846fd0b554ce633b7c9daae", func := "example.com/tributary/tributary/internal/rcs.LawS0579CExact", spec := "lawS0579CExact", apart := false }
def LawS0579CExactSaid : Prop := lawS0579CExactRow.holds Yba.pinned (OpenSpec.ofChange lawS0579CExactSpec)

/-- ITS FALSE NEIGHBOUR: 'it returns false'. Refute it at one input. -/
def lawS0579CExactWrong : ChangeSpec := { name := "lawS0579CExact", fn := fun _ => fun
  | [d1, d2] => { results := [.lit (.bool false)], args := [d1, d2] }
  | _ => none }
def LawS0579CExactWrongFalsely : Prop := lawS0579CExactRow.holds Yba.pinned (OpenSpec.ofChange lawS0579CExactWrong)

/-- 'rcs.LawS0579CEmptyPrefix': WHATEVER THE INPUT: true; the input reads as it did. -/
def lawS0579CEmptyPrefixSpec : ChangeSpec := { name := "lawS0579CEmptyPrefix", fn := fun _ => fun
  | [d] => { results := [.lit (.bool true)], args := [d] }
  | _ => none }
def lawS0579CEmptyPrefixRow : OpenClaim := { program := "ybulkkyu", sum := "f5d8a1fefc90deb0d38c810afa6895a07e00ca006846fd0b554ce633b7c9daae", func := "example.com/tributary/tributary/internal/rcs.LawS0579CEmptyPrefix", spec := "lawS0579CEmptyPrefix", apart := false }
def LawS0579CEmptyPrefixSaid : Prop := lawS0579CEmptyPrefixRow.holds Yba.pinned (OpenSpec.ofChange lawS0579CEmptyPrefixSpec)

/-- ITS FALSE NEIGHBOUR: 'it returns false'. Refute it at one input. -/
def lawS0579CEmptyPrefixWrong : ChangeSpec := { name := "lawS0579CEmptyPrefix", fn := fun _ => fun
  | [d] => { results := [.lit (.bool false)], args := [d] }
  | _ => none }
def LawS0579CEmptyPrefixWrongFalsely : Prop := lawS0579CEmptyPrefixRow.holds Yba.pinned (OpenSpec.ofChange lawS0579CEmptyPrefixWrong)

end Rows
end Go.Proofs.Ybulkkyu

/-
  No cell of these rows narrows 'for every input' (looked for: loops, veiled, ifaces, maps, wideKeys, modest, calm, conditions, laid).
  DERIVED. THE GIVEN ROWS OF THIS SEAT. 5 by the template 'for every input the law returns true; each argument reads behind the call as it read before'; 0 by the template 'total and deterministic' (their statements: YbulkfqyTotals.lean).
  GIVEN WITH THE SEED: the statements are not yours to turn. If you find one false, say at which input.
  Laid BY PROGRAM, IN A SANDBOX (cutbox-rows.mjs): the forced cells as the released guide's own fill.sh prints them over the translation 7421ce196e138d31… (all of the seat's roots in one cut). By AI agents, Wed Nov 11 2026. No macro, syntax, notation, axiom, sorry.
-/
import Derived.Test.YbulkfqyChecked
import GoSem.Claim
import GoSem.ClaimJoined
import GoSem.ClaimMapViews
import Derived.JoinedTies
import Derived.KernelRfl
namespace Go.Proofs.Ybulkfqy
/- THE CELL 'sum', in the pinned program and in every row, IS THE sha256 OF THE DUMP (.gsa) THAT YbulkfqyProg.lean LOADS. Nothing in Lean hashes anything: it is a label: what it is worth is what the hold of that sum in a sandbox is worth. -/
noncomputable def Yba.pinned : Pinned := { name := "ybulkfqy", sum := "7421ce196e138d31afae41af0076e5613193b9cc6a1a422b7bffdef78eab030f", checked := Yba.checked }
namespace Rows
def none {H : Type} : Left H := { results := [], args := [] }

/-- 'profile.LawS0323AChoice': WHATEVER THE INPUT: true; the input reads as it did. -/
def lawS0323AChoiceSpec : ChangeSpec := { name := "lawS0323AChoice", fn := fun _ => fun
  | [d] => { results := [.lit (.bool true)], args := [d] }
  | _ => none }
def lawS0323AChoiceRow : OpenClaim := { program := "ybulkfqy", sum := "7421ce196e138d31afae41af0076e5613193b9cc6a1a422b7bffdef78eab030f", func := "example.com/stacklight/stacklight/internal/profile.LawS0323AChoice", spec := "lawS0323AChoice", apart := false }
def LawS0323AChoiceSaid : Prop := lawS0323AChoiceRow.holds Yba.pinned (OpenSpec.ofChange lawS0323AChoiceSpec)

/-- ITS FALSE NEIGHBOUR: 'it returns false'. Refute it at one input. -/
def lawS0323AChoiceWrong : ChangeSpec := { name := "lawS0323AChoice", fn := fun _ => fun
  | [d] => { results := [.lit (.bool false)], args := [d] }
  | _ => none }
def LawS0323AChoiceWrongFalsely : Prop := lawS0323AChoiceRow.holds Yba.pinned (OpenSpec.ofChange lawS0323AChoiceWrong)

/-- 'profile.LawS0323AWrite': WHATEVER THE INPUT: true; the input reads as it did. -/
def lawS0323AWriteSpec : ChangeSpec := { name := "lawS0323AWrite", fn := fun _ => fun
  | [d1, d2] => { results := [.lit (.bool true)], args := [d1, d2] }
  | _ => none }
def lawS0323AWriteRow : OpenClaim := { program := "ybulkfqy", sum := "7421ce196e138d31afae41af0076e5613193b9cc6a1a422b7bffdef78eab030f", func := "example.com/stacklight/stacklight/internal/profile.LawS0323AWrite", spec := "lawS0323AWrite", apart := false }
def LawS0323AWriteSaid : Prop := lawS0323AWriteRow.holds Yba.pinned (OpenSpec.ofChange lawS0323AWriteSpec)

/-- ITS FALSE NEIGHBOUR: 'it returns false'. Refute it at one input. -/
def lawS0323AWriteWrong : ChangeSpec := { name := "lawS0323AWrite", fn := fun _ => fun
  | [d1, d2] => { results := [.lit (.bool false)], args := [d1, d2] }
  | _ => none }
def LawS0323AWriteWrongFalsely : Prop := lawS0323AWriteRow.holds Yba.pinned (OpenSpec.ofChange lawS0323AWriteWrong)

/-- 'profile.LawS0323AConstructor': WHATEVER THE INPUT: true; the input reads as it did. -/
def lawS0323AConstructorSpec : ChangeSpec := { name := "lawS0323AConstructor", fn := fun _ => fun
  | [d] => { results := [.lit (.bool true)], args := [d] }
  | _ => none }
def lawS0323AConstructorRow : OpenClaim := { program := "ybulkfqy", sum := "7421ce196e138d31afae41af0076e5613193b9cc6a1a422b7bffdef78eab030f", func := "example.com/stacklight/stacklight/internal/profile.LawS0323AConstructor", spec := "lawS0323AConstructor", apart := false }
def LawS0323AConstructorSaid : Prop := lawS0323AConstructorRow.holds Yba.pinned (OpenSpec.ofChange lawS0323AConstructorSpec)

/-- ITS FALSE NEIGHBOUR: 'it returns false'. Refute it at one input. -/
def lawS0323AConstructorWrong : ChangeSpec := { name := "lawS0323AConstructor", fn := fun _ => fun
  | [d] => { results := [.lit (.bool false)], args := [d] }
  | _ => none }
def LawS0323AConstructorWrongFalsely : Prop := lawS0323AConstructorRow.holds Yba.pinned (OpenSpec.ofChange lawS0323AConstructorWrong)

/-- 'profile.LawS0323CExact': WHATEVER THE INPUT: true; the input reads as it did. -/
def lawS0323CExactSpec : ChangeSpec := { name := "lawS0323CExact", fn := fun _ => fun
  | [d] => { results := [.lit (.bool true)], args := [d] }
  | _ => none }
def lawS0323CExactRow : OpenClaim := { program := "ybulkfqy", sum := "7421ce196e138d31afae41af0076e5613193b9cc6a1a422b7bffdef78eab030f", func := "example.com/stacklight/stacklight/internal/profile.LawS0323CExact", spec := "lawS0323CExact", apart := false }
def LawS0323CExactSaid : Prop := lawS0323CExactRow.holds Yba.pinned (OpenSpec.ofChange lawS0323CExactSpec)

/-- ITS FALSE NEIGHBOUR: 'it returns false'. Refute it at one input. -/
def lawS0323CExactWrong : ChangeSpec := { name := "lawS0323CExact", fn := fun _ => fun
  | [d] => { results := [.lit (.bool false)], args := [d] }
  | _ => none }
def LawS0323CExactWrongFalsely : Prop := lawS0323CExactRow.holds Yba.pinned (OpenSpec.ofChange lawS0323CExactWrong)

/-- 'profile.LawS0323CConcat': WHATEVER THE INPUT: true; the input reads as it did. -/
def lawS0323CConcatSpec : ChangeSpec := { name := "lawS0323CConcat", fn := fun _ => fun
  | [d1, d2] => { results := [.lit (.bool true)], args := [d1, d2] }
  | _ => none }
def lawS0323CConcatRow : OpenClaim := { program := "ybulkfqy", sum := "7421ce196e138d31afae41af0076e5613193b9cc6a1a422b7bffdef78eab030f", func := "example.com/stacklight/stacklight/internal/profile.LawS0323CConcat", spec := "lawS0323CConcat", apart := false }
def LawS0323CConcatSaid : Prop := lawS0323CConcatRow.holds Yba.pinned (OpenSpec.ofChange lawS0323CConcatSpec)

/-- ITS FALSE NEIGHBOUR: 'it returns false'. Refute it at one input. -/
def lawS0323CConcatWrong : ChangeSpec := { name := "lawS0323CConcat", fn := fun _ => fun
  | [d1, d2] => { results := [.lit (.bool false)], args := [d1, d2] }
  | _ => none }
def LawS0323CConcatWrongFalsely : Prop := lawS0323CConcatRow.holds Yba.pinned (OpenSpec.ofChange lawS0323CConcatWrong)

end Rows
end Go.Proofs.Ybulkfqy

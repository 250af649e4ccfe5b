/-
  No cell of these rows narrows 'for every input' (looked for: loops, veiled, ifaces, maps, wideKeys, modest, calm, conditions, laid).
  DERIVED. THE GIVEN ROWS OF THIS SEAT. 4 by the template 'for every input the law returns true; each argument reads behind the call as it read before'; 0 by the template 'total and deterministic' (their statements: YbulkfrmTotals.lean).
  GIVEN WITH THE SEED: the statements are not yours to turn. If you find one false, say at which input.
  Laid BY PROGRAM, IN A SANDBOX (cutbox-rows.mjs): the forced cells as the released guide's own fill.sh prints them over the translation fb5f8d4e71573da3… (all of the seat's roots in one cut). By AI agents, Wed Nov 11 2026. No macro, syntax, notation, axiom, sorry.
-/
import Derived.Test.YbulkfrmChecked
import GoSem.Claim
import GoSem.ClaimJoined
import GoSem.ClaimMapViews
import Derived.JoinedTies
import Derived.KernelRfl
namespace Go.Proofs.Ybulkfrm
/- THE CELL 'sum', in the pinned program and in every row, IS THE sha256 OF THE DUMP (.gsa) THAT YbulkfrmProg.lean LOADS. Nothing in Lean hashes anything: it is a label: what it is worth is what the hold of that sum in a sandbox is worth. -/
noncomputable def Yba.pinned : Pinned := { name := "ybulkfrm", sum := "fb5f8d4e71573da3f6664effa0f4f3b48f615a2829ed9995b64faa8d2a12502c", checked := Yba.checked }
namespace Rows
def none {H : Type} : Left H := { results := [], args := [] }

/-- 'placement.LawS0324AExact': WHATEVER THE INPUT: true; the input reads as it did. -/
def lawS0324AExactSpec : ChangeSpec := { name := "lawS0324AExact", fn := fun _ => fun
  | [d1, d2, d3, d4, d5, d6, d7, d8] => { results := [.lit (.bool true)], args := [d1, d2, d3, d4, d5, d6, d7, d8] }
  | _ => none }
def lawS0324AExactRow : OpenClaim := { program := "ybulkfrm", sum := "fb5f8d4e71573da3f6664effa0f4f3b48f615a2829ed9995b64faa8d2a12502c", func := "example.com/nuthatch/nuthatch/internal/placement.LawS0324AExact", spec := "lawS0324AExact", apart := false }
def LawS0324AExactSaid : Prop := lawS0324AExactRow.holds Yba.pinned (OpenSpec.ofChange lawS0324AExactSpec)

/-- ITS FALSE NEIGHBOUR: 'it returns false'. Refute it at one input. -/
def lawS0324AExactWrong : ChangeSpec := { name := "lawS0324AExact", fn := fun _ => fun
  | [d1, d2, d3, d4, d5, d6, d7, d8] => { results := [.lit (.bool false)], args := [d1, d2, d3, d4, d5, d6, d7, d8] }
  | _ => none }
def LawS0324AExactWrongFalsely : Prop := lawS0324AExactRow.holds Yba.pinned (OpenSpec.ofChange lawS0324AExactWrong)

/-- 'placement.LawS0324ASelf': WHATEVER THE INPUT: true; the input reads as it did. -/
def lawS0324ASelfSpec : ChangeSpec := { name := "lawS0324ASelf", fn := fun _ => fun
  | [d1, d2, d3, d4, d5, d6, d7] => { results := [.lit (.bool true)], args := [d1, d2, d3, d4, d5, d6, d7] }
  | _ => none }
def lawS0324ASelfRow : OpenClaim := { program := "ybulkfrm", sum := "fb5f8d4e71573da3f6664effa0f4f3b48f615a2829ed9995b64faa8d2a12502c", func := "example.com/nuthatch/nuthatch/internal/placement.LawS0324ASelf", spec := "lawS0324ASelf", apart := false }
def LawS0324ASelfSaid : Prop := lawS0324ASelfRow.holds Yba.pinned (OpenSpec.ofChange lawS0324ASelfSpec)

/-- ITS FALSE NEIGHBOUR: 'it returns false'. Refute it at one input. -/
def lawS0324ASelfWrong : ChangeSpec := { name := "lawS0324ASelf", fn := fun _ => fun
  | [d1, d2, d3, d4, d5, d6, d7] => { results := [.lit (.bool false)], args := [d1, d2, d3, d4, d5, d6, d7] }
  | _ => none }
def LawS0324ASelfWrongFalsely : Prop := lawS0324ASelfRow.holds Yba.pinned (OpenSpec.ofChange lawS0324ASelfWrong)

/-- 'keyspace.LawS0324CExact': WHATEVER THE INPUT: true; the input reads as it did. -/
def lawS0324CExactSpec : ChangeSpec := { name := "lawS0324CExact", fn := fun _ => fun
  | [d1, d2] => { results := [.lit (.bool true)], args := [d1, d2] }
  | _ => none }
def lawS0324CExactRow : OpenClaim := { program := "ybulkfrm", sum := "fb5f8d4e71573da3f6664effa0f4f3b48f615a2829ed9995b64faa8d2a12502c", func := "example.com/nuthatch/nuthatch/internal/keyspace.LawS0324CExact", spec := "lawS0324CExact", named := ["encoding/binary.BigEndian"], apart := false }
def LawS0324CExactSaid : Prop := lawS0324CExactRow.holds Yba.pinned (OpenSpec.ofChange lawS0324CExactSpec)

/-- ITS FALSE NEIGHBOUR: 'it returns false'. Refute it at one input. -/
def lawS0324CExactWrong : ChangeSpec := { name := "lawS0324CExact", fn := fun _ => fun
  | [d1, d2] => { results := [.lit (.bool false)], args := [d1, d2] }
  | _ => none }
def LawS0324CExactWrongFalsely : Prop := lawS0324CExactRow.holds Yba.pinned (OpenSpec.ofChange lawS0324CExactWrong)

/-- 'keyspace.LawS0324CAdjacent': WHATEVER THE INPUT: true; the input reads as it did. -/
def lawS0324CAdjacentSpec : ChangeSpec := { name := "lawS0324CAdjacent", fn := fun _ => fun
  | [d1, d2] => { results := [.lit (.bool true)], args := [d1, d2] }
  | _ => none }
def lawS0324CAdjacentRow : OpenClaim := { program := "ybulkfrm", sum := "fb5f8d4e71573da3f6664effa0f4f3b48f615a2829ed9995b64faa8d2a12502c", func := "example.com/nuthatch/nuthatch/internal/keyspace.LawS0324CAdjacent", spec := "lawS0324CAdjacent", named := ["encoding/binary.BigEndian"], apart := false }
def LawS0324CAdjacentSaid : Prop := lawS0324CAdjacentRow.holds Yba.pinned (OpenSpec.ofChange lawS0324CAdjacentSpec)

/-- ITS FALSE NEIGHBOUR: 'it returns false'. Refute it at one input. -/
def lawS0324CAdjacentWrong : ChangeSpec := { name := "lawS0324CAdjacent", fn := fun _ => fun
  | [d1, d2] => { results := [.lit (.bool false)], args := [d1, d2] }
  | _ => none }
def LawS0324CAdjacentWrongFalsely : Prop := lawS0324CAdjacentRow.holds Yba.pinned (OpenSpec.ofChange lawS0324CAdjacentWrong)

end Rows
end Go.Proofs.Ybulkfrm

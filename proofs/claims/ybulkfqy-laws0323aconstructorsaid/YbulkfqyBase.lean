/-
  What the three laws on the decoder share: the zero value of the type 'decoder' (type 86) as 139 cells of which only those that are read are named; '==' of one pointer with itself.
-/
import Derived.Test.YbulkfqyRows
import Derived.WalkKit
import Derived.LaidEql
namespace Go.Proofs.Ybulkfqy
open Go.RowKit

/-- The size, and the ten cells that the laws read, of an aggregate. -/
def peek (v : Option Value) : Option (Nat × List (Option Value)) :=
  match v with
  | some (.agg Z) => some (Z.size, [7, 15, 23, 29, 38, 46, 52, 61, 69, 75].map (fun i => Z[i]?))
  | _ => none

theorem info86 : (Yba.prog.info? 86).map (fun i => peek i.zero) = some (some (139, [some (.int .i64 0), some (.int .i64 0), some (.int .i64 0), some (.bool false), some (.int .i64 0), some (.int .i64 0), some (.bool false), some (.int .i64 0), some (.int .i64 0), some (.bool false)])) := by kernel_rfl

theorem zero86 : ∃ Z : Array Value, (∀ w, (zeroValue 86).run Yba.prog w = .ok (.agg Z) w) ∧ Z.size = 139 ∧
    Z[7]? = some (.int .i64 0) ∧ Z[15]? = some (.int .i64 0) ∧ Z[23]? = some (.int .i64 0) ∧ Z[29]? = some (.bool false) ∧
    Z[38]? = some (.int .i64 0) ∧ Z[46]? = some (.int .i64 0) ∧ Z[52]? = some (.bool false) ∧
    Z[61]? = some (.int .i64 0) ∧ Z[69]? = some (.int .i64 0) ∧ Z[75]? = some (.bool false) := by
  obtain ⟨i, hi, hz⟩ := Option.map_eq_some_iff.1 info86
  cases hv : i.zero with
  | none => simp [peek, hv] at hz
  | some v =>
    cases v with
    | agg Z =>
      simp [peek, hv] at hz
      refine ⟨Z, fun w => ?_, hz.1, ?_⟩
      · simp [zeroValue, typeInfo, hi, hv]
      · simpa using hz.2
    | _ => simp [peek, hv] at hz

theorem info50 : (Yba.prog.info? 50).map (fun i => i.size) = some 23 := by kernel_rfl

/-- '==' of one pointer to an index with itself. -/
theorem eq87 (a : Addr) (w : World) : (binOp .eql 87 (.pointer (some a)) (.pointer (some a))).run Yba.prog w = .ok (.bool true) w := by
  obtain ⟨j, hj, hsz⟩ := Option.map_eq_some_iff.1 info50
  have h : ∀ d : Nat, (Op.equalIn (d + 1) 87 (.pointer (some a)) (.pointer (some a))).run Yba.prog w = .ok true w := fun d => by
    simp [Op.equalIn, run_underlying Yba.underlying87, sizeOf, typeInfo, hj, run_sameAddr_same]
  simp only [binOp]
  simp [Op.equal, Op.maxDepth, h 9999]
end Go.Proofs.Ybulkfqy

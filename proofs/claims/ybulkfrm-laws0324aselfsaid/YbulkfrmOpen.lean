/-
  How the arguments of the two laws on placement are opened: a slice of integers, an array of three int64.
-/
import Derived.Test.YbulkfrmStep
import Derived.ProofKit
import Derived.OpenShut
import Derived.ShutString
import Derived.ChangeOld
import Derived.Below
import Derived.Lib.SmallJoins
namespace Go.Proofs.Ybulkfrm
open Go.ChangeShapes Go.WideShapes Go.ChangeAt Go.RowKit

theorem own : ownKnob Yba.prog.godebug = none := by kernel_rfl
theorem laidOut : laidOutB Yba.prog = true := by kernel_rfl

/-- WHAT THE WALK IS TOLD OF A SLICE OF INTEGERS THAT CAME IN: it is nil; or it leads to a row of 'cap' cells, the numbers 'zs' (the first 'len' are its elements, the rest its spare room), each fitting its kind. -/
def IsRow (k : IntKind) (w : World) (a : Option Addr) (len cap : Nat) (zs : List Int) : Prop :=
  (a = none ∧ len = 0 ∧ cap = 0 ∧ zs = []) ∨
  ∃ x, a = some x ∧ len ≤ cap ∧ cap ≤ maxLen ∧ zs.length = cap ∧ (∀ i, i < zs.length → w.cell? (x.add i) = some (.int k (zs.getD i 0))) ∧ ∀ n ∈ zs, (Lit.int k n).wf = true

theorem IsRow.at {k : IntKind} {w : World} {a : Option Addr} {len cap : Nat} {zs : List Int} (h : IsRow k w a len cap zs) (i : Nat) (hi : i < len) :
    i < zs.length ∧ (Lit.int k (zs.getD i 0)).wf = true ∧ ∃ b off, a = some ⟨b, off, none⟩ ∧ w.cell? ⟨b, off + i, none⟩ = some (.int k (zs.getD i 0)) := by
  rcases h with ⟨-, h, -⟩ | ⟨⟨b, off, spot⟩, rfl, hlc, hm, hzl, hcell, hwf⟩
  · omega
  · have hi' : i < zs.length := by omega
    have hspot : spot = none := by simpa [Addr.add] using World.cell?_spot (hcell 0 (by omega))
    subst hspot
    refine ⟨hi', ?_, b, off, rfl, by rw [← add_plain]; exact hcell i hi'⟩
    have e : zs.getD i 0 = zs[i] := by simp [List.getD, hi']
    rw [e]; exact hwf _ (List.getElem_mem hi')
theorem IsRow.len_le {k : IntKind} {w : World} {a : Option Addr} {len cap : Nat} {zs : List Int} (h : IsRow k w a len cap zs) : len ≤ 9223372036854775807 ∧ len ≤ zs.length := by
  rcases h with ⟨-, h, -, -⟩ | ⟨x, rfl, hlc, hm, hzl, hcell, hwf⟩
  · omega
  · unfold maxLen at hm; omega

theorem IsRow.bytes {w : World} {a : Option Addr} {len cap : Nat} {zs : List Int} (h : IsRow .u8 w a len cap zs) : Bytes w a len (fun i => zs.getD i 0) := by
  refine ⟨h.len_le.1, fun i hi => ?_⟩
  obtain ⟨hi', hw, b, off, ha, hc⟩ := h.at i hi
  have hb := bounds_u8 hw
  exact ⟨hb.1, by have := hb.2; show zs.getD i 0 ≤ 255; omega, b, off, ha, hc⟩
theorem IsRow.row64 {w : World} {a : Option Addr} {len cap : Nat} {zs : List Int} (h : IsRow .i64 w a len cap zs) : Row64 w a len (zs.take len) := by
  have hl := h.len_le.2
  refine ⟨by simp; omega, fun h0 => ?_⟩
  obtain ⟨_, _, b, off, ha, _⟩ := h.at 0 h0
  refine ⟨b, off, ha, fun i hi => ?_⟩
  obtain ⟨_, _, b', off', ha', hc⟩ := h.at i hi
  rw [ha] at ha'
  simp only [Option.some.injEq, Addr.mk.injEq] at ha'
  obtain ⟨rfl, rfl, -⟩ := ha'
  rw [hc]
  simp [List.getD, hi]

theorem cells2 : Yba.prog.cellsOf 2 = 1 := by kernel_rfl
theorem cells23 : Yba.prog.cellsOf 23 = 3 := by kernel_rfl
/-- An array of three int64, by value. -/
theorem open_arr {H : Type} {enc : TypeId × Value → H} {W : World} {r : Reach} {b0 base : Nat} {sp : Nat → Bool} {held : Bool} {v : Value} {d : DataW H} {p : List MemPlace}
    (hv : Value.okWide Yba.prog W r b0 23 v) (h : DataW.Trod enc Yba.prog W base sp held 23 v d p) : ∃ x0 x1 x2 : Int, v = .agg #[.int .i64 x0, .int .i64 x1, .int .i64 x2] := by
  simp only [Value.okWide, Yba.underlying23] at hv
  obtain ⟨cs, rfl, hsz, -⟩ := hv
  obtain ⟨c0, c1, c2, rfl⟩ := Joins.array3 (hsz.trans cells23)
  obtain ⟨fuel, hf⟩ := h
  obtain ⟨xs, m, -, -, -, hl, hx⟩ := DataW.trod_array Yba.underlying23 hf
  have g0 := hx 0 (by omega)
  have g1 := hx 1 (by omega)
  have g2 := hx 2 (by omega)
  rw [List.getElem?_eq_getElem (by omega)] at g0 g1 g2
  rw [cells2] at g0 g1 g2
  obtain ⟨n0, e0, -, -⟩ := DataW.trod_int Yba.underlying2 g0
  obtain ⟨n1, e1, -, -⟩ := DataW.trod_int Yba.underlying2 g1
  obtain ⟨n2, e2, -, -⟩ := DataW.trod_int Yba.underlying2 g2
  simp [Value.cells] at e0 e1 e2
  subst e0 e1 e2
  exact ⟨n0, n1, n2, rfl⟩
end Go.Proofs.Ybulkfrm

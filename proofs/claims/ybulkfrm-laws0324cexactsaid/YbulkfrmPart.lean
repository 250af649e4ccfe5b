/-
  The plain law of partitions (no Go in sight), and the start of whatever range.
-/
import Derived.Test.YbulkfrmRange
import Derived.Laws.BitsAllLaws
namespace Go.Proofs.Ybulkfrm
open Go.ChangeShapes Go.WideShapes Go.ChangeAt Go.RowKit
set_option linter.unusedVariables false

/-! ### THE PLAIN LAW: the mask of a power, the partition under it, the width of a partition -/
/-- What both laws reckon first: m the mask 2^pw - 1, q the partition p AND m, T the width 2^(32 - pw). -/
structure Part (a0 a1 m q T : Int) : Prop where
  mask : IntKind.u64.wrap (IntKind.u64.wrap (2 ^ (a0 % 33).toNat) - 1) = m
  part : bits BinOp.and IntKind.u64 a1 m = q
  width : 2 ^ (32 - a0 % 33).toNat = T
  whole : (m + 1) * T = 4294967296
  t0 : 1 ≤ T
  m0 : 0 ≤ m
  m1 : m ≤ 4294967295
  q0 : 0 ≤ q
  q1 : q ≤ m
theorem part_of (a0 a1 : Int) (h2 : 0 ≤ a1) (h3 : a1 < 4294967296) : ∃ m q T, Part a0 a1 m q T := by
  obtain ⟨k, hk⟩ : ∃ k : Nat, a0 % 33 = k := ⟨(a0 % 33).toNat, by omega⟩
  have hk1 : k ≤ 32 := by omega
  obtain ⟨p, rfl⟩ := Int.eq_ofNat_of_zero_le h2
  have e1 : (a0 % 33).toNat = k := by omega
  have e2 : (32 - a0 % 33).toNat = 32 - k := by omega
  have hpos : 0 < 2 ^ k := Nat.two_pow_pos k
  have hpos' : 0 < 2 ^ (32 - k) := Nat.two_pow_pos _
  have hmul : 2 ^ k * 2 ^ (32 - k) = 4294967296 := by
    rw [← Nat.pow_add, show k + (32 - k) = 32 by omega]
  have hle : 2 ^ k ≤ 4294967296 := by
    have := Nat.pow_le_pow_right (show 0 < 2 by omega) hk1
    simpa using this
  have c1 : (2 : Int) ^ k = ((2 ^ k : Nat) : Int) := by rw [Int.natCast_pow]; rfl
  have c2 : (2 : Int) ^ (32 - k) = ((2 ^ (32 - k) : Nat) : Int) := by rw [Int.natCast_pow]; rfl
  refine ⟨((2 ^ k - 1 : Nat) : Int), ((p % 2 ^ k : Nat) : Int), ((2 ^ (32 - k) : Nat) : Int), ?_, ?_, ?_, ?_, ?_, ?_, ?_, ?_, ?_⟩
  · rw [e1, c1]
    have i1 := u64_small ((2 ^ k : Nat) : Int) (by omega) (by omega)
    have i2 := u64_small (((2 ^ k : Nat) : Int) - 1) (by omega) (by omega)
    rw [i1, i2]
    omega
  · rw [u64_and_nat p (2 ^ k - 1) (by omega) (by omega), Nat.and_two_pow_sub_one_eq_mod]
  · rw [e2, c2]
  · have : ((2 ^ k - 1 : Nat) : Int) + 1 = ((2 ^ k : Nat) : Int) := by omega
    rw [this, ← Int.natCast_mul, hmul]; rfl
  · omega
  · omega
  · omega
  · omega
  · have := Nat.mod_lt p hpos
    omega

theorem mul_step (x T : Int) : (x + 1) * T = x * T + T := by rw [Int.add_mul, Int.one_mul]
theorem mul_bd {x m T : Int} (h : x ≤ m) (hw : (m + 1) * T = 4294967296) (t0 : 1 ≤ T) : x * T + T ≤ 4294967296 := by
  rw [← mul_step, ← hw]
  exact Int.mul_le_mul_of_nonneg_right (by omega) (by omega)
theorem mul_lt {x m T : Int} (h : x + 1 ≤ m) (hw : (m + 1) * T = 4294967296) (t0 : 1 ≤ T) : x * T + T < 4294967296 := by
  have := mul_bd h hw t0
  rw [mul_step] at this
  omega

/-- Hashed.Range at whatever partition: its start, its id; its end is some slice. -/
def RangeStart (p X : Int) (w : World) (e : Ending) (w' : World) : Prop :=
  ∃ g1 c1 a2 n2 c2, e = .returned (.agg #[.int .u64 (p + 1), .slice (some ⟨g1, 0, none⟩) 4 c1, .slice a2 n2 c2, .string ⟨#[109, 100, 53]⟩]) ∧ Be4 w' g1 X ∧ Below w.heap.size w w'
theorem range_start (pw p X T : Int) (w : World) (h0 : 0 ≤ pw) (h1 : pw ≤ 32) (h2 : 0 ≤ p) (h3 : p < 4294967296) (hT : 2 ^ (32 - pw).toNat = T) (hX : p * T = X) (x0 : 0 ≤ X) (t0 : 1 ≤ T) (xt : X + T ≤ 4294967296) :
    Calls Yba.prog 10 #[.agg #[.int .i64 pw], .int .u32 p] w (RangeStart p X w) := by
  by_cases h : X + T = 4294967296
  · exact (range_last pw p X T w h0 h1 h2 h3 hT hX x0 t0 h).mono fun e w' ⟨g1, c1, he, hb, hbel⟩ => ⟨g1, c1, _, _, _, he, hb, hbel⟩
  · exact (range_any pw p X T w h0 h1 h2 h3 hT hX x0 t0 (by omega)).mono fun e w' ⟨g1, c1, g2, c2, he, hb, _, hbel⟩ => ⟨g1, c1, _, _, _, he, hb, hbel⟩
end Go.Proofs.Ybulkfrm

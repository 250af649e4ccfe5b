/-
  The proof of Rows.LawS0324CAdjacentSaid: the walk over the contracts of Keys, Range and Part; the frame is the skeleton tool's, its end said by 'Below'.
-/
import Derived.Test.YbulkfrmRows
import Derived.Test.YbulkfrmPart
import Derived.WalkSmall
import Derived.ProofKit
import Derived.OpenShut
import Derived.ShutString
import Derived.ChangeOld
import Derived.Below
namespace Go.Proofs.Ybulkfrm.lawS0324CAdjacent
open Go.ChangeShapes Go.WideShapes Go.ChangeAt Go.RowKit
set_option linter.unusedVariables false

theorem own : ownKnob Yba.prog.godebug = none := by kernel_rfl

set_option maxHeartbeats 400000 in
theorem walk_one (a0 a1 T : Int) (h0 : 0 ≤ a0) (h1 : a0 ≤ 255) (h2 : 0 ≤ a1) (h3 : a1 < 4294967296) (w : World) (hp : Part a0 a1 0 0 T) :
    Calls Yba.prog 6 #[.int .u8 a0, .int .u32 a1] w fun e w' => e = .returned (.bool true) ∧ Below w.heap.size w w' := by
  have eM := hp.mask
  have eA := hp.part
  clear hp
  go_enter Yba.func6, Yba.ntmps6
  go_wp2
  go_ret
  exact ⟨rfl, Below.refl _ _⟩
set_option maxHeartbeats 800000 in
theorem walk_low (a0 a1 m q T : Int) (h0 : 0 ≤ a0) (h1 : a0 ≤ 255) (h2 : 0 ≤ a1) (h3 : a1 < 4294967296) (w : World) (hp : Part a0 a1 m q T) (hlt : q + 1 ≤ m) :
    Calls Yba.prog 6 #[.int .u8 a0, .int .u32 a1] w fun e w' => e = .returned (.bool true) ∧ Below w.heap.size w w' := by
  have eM := hp.mask
  have eA := hp.part
  have q0 := hp.q0
  have m1 := hp.m1
  have t0 := hp.t0
  have hT : Hid (2 ^ (32 - a0 % 33).toNat = T) := hp.width
  obtain ⟨X, hX⟩ : ∃ X, X = q * T := ⟨_, rfl⟩
  have x0 : 0 ≤ X := by rw [hX]; exact Int.mul_nonneg q0 (by omega)
  have xt : X + T < 4294967296 := by rw [hX]; exact mul_lt hlt hp.whole t0
  have yt : X + T + T ≤ 4294967296 := by rw [hX, ← mul_step]; exact mul_bd hlt hp.whole t0
  have HX : Hid (q * T = X) := hX.symm
  have HY : Hid ((q + 1) * T = X + T) := by rw [hX]; exact mul_step q T
  have b0 : (q == m) = false := beq_eq_false_iff_ne.2 (by omega)
  have d0 : 0 ≤ a0 % 33 := by omega
  have d1 : a0 % 33 ≤ 32 := by omega
  clear hX hp
  go_enter Yba.func6, Yba.ntmps6
  go_wp2_with fail
  refine (range_any (a0 % 33) q X T _ d0 d1 q0 (by omega) hT.out HX.out x0 t0 xt).mono ?_
  rintro e w1 ⟨g1, c1, g2, c2, rfl, hA1, hA2, hbel⟩
  obtain ⟨hc, hf, hz, hb1⟩ := first_of hbel
  have r0 : w1.cell? ⟨w.heap.size, 0, none⟩ = some (.int .i64 (a0 % 33)) := hc 0
  have hz1 : w.heap.size < w1.heap.size := by omega
  have HA := (show Hid _ from hA2)
  have HB := (show Hid _ from hb1)
  clear hA1 hA2 hbel hc hf hb1
  go_wp2_with fail
  refine (range_start (a0 % 33) (q + 1) (X + T) T _ d0 d1 (by omega) (by omega) hT.out HY.out (by omega) t0 yt).mono ?_
  rintro e w2 ⟨g3, c3, a4, n4, c4, rfl, hA3, hbel⟩
  obtain ⟨hc, hf, hz2, hb2⟩ := first_of hbel
  have s0 : w2.cell? ⟨w1.heap.size, 0, none⟩ = some (.int .u64 (q + 1)) := hc 0
  have s2 : w2.cell? ⟨w1.heap.size, 2, none⟩ = some (.slice (some ⟨g2, 0, none⟩) 4 c2) := hc 2
  have hz3 : w1.heap.size < w2.heap.size := by omega
  have HA3 := (show Hid _ from hA3)
  have HB2 := (show Hid _ from hb2)
  clear hc hf hbel hA3 hb2
  go_wp2_with fail
  refine (eq_any g2 c2 g3 c3 (X + T) _ (Be4.later (HA.out.later HB2.out) ((Below.refl _ _).alloc (Nat.le_refl _) _)) (Be4.later HA3.out ((Below.refl _ _).alloc (Nat.le_refl _) _))).mono ?_
  rintro e w3 ⟨rfl, nq, rfl⟩
  go_wp2
  go_ret
  exact ⟨rfl, below_drewN ((HB.out.trans (HB2.out.mono (by omega))).alloc (by omega) _) _⟩

set_option maxHeartbeats 800000 in
theorem walk_top (a0 a1 q T : Int) (h0 : 0 ≤ a0) (h1 : a0 ≤ 255) (h2 : 0 ≤ a1) (h3 : a1 < 4294967296) (w : World) (hp : Part a0 a1 (q + 1) (q + 1) T) (q0 : 0 ≤ q) :
    Calls Yba.prog 6 #[.int .u8 a0, .int .u32 a1] w fun e w' => e = .returned (.bool true) ∧ Below w.heap.size w w' := by
  have eM := hp.mask
  have eA := hp.part
  have hlt : q + 1 ≤ q + 1 := Int.le_refl _
  have m1 := hp.m1
  have t0 := hp.t0
  have hT : Hid (2 ^ (32 - a0 % 33).toNat = T) := hp.width
  obtain ⟨X, hX⟩ : ∃ X, X = q * T := ⟨_, rfl⟩
  have x0 : 0 ≤ X := by rw [hX]; exact Int.mul_nonneg q0 (by omega)
  have xt : X + T < 4294967296 := by rw [hX]; exact mul_lt hlt hp.whole t0
  have yt : X + T + T ≤ 4294967296 := by rw [hX, ← mul_step]; exact mul_bd hlt hp.whole t0
  have HX : Hid (q * T = X) := hX.symm
  have HY : Hid ((q + 1) * T = X + T) := by rw [hX]; exact mul_step q T
  have b0 : (q + 1 == 0) = false := beq_eq_false_iff_ne.2 (by omega)
  have b1 : q + 1 - 1 = q := by omega
  have d0 : 0 ≤ a0 % 33 := by omega
  have d1 : a0 % 33 ≤ 32 := by omega
  clear hX hp hlt
  go_enter Yba.func6, Yba.ntmps6
  go_wp2_with fail
  refine (range_any (a0 % 33) q X T _ d0 d1 q0 (by omega) hT.out HX.out x0 t0 xt).mono ?_
  rintro e w1 ⟨g1, c1, g2, c2, rfl, hA1, hA2, hbel⟩
  obtain ⟨hc, hf, hz, hb1⟩ := first_of hbel
  have r0 : w1.cell? ⟨w.heap.size, 0, none⟩ = some (.int .i64 (a0 % 33)) := hc 0
  have hz1 : w.heap.size < w1.heap.size := by omega
  have HA := (show Hid _ from hA2)
  have HB := (show Hid _ from hb1)
  clear hA1 hA2 hbel hc hf hb1
  go_wp2_with fail
  refine (range_start (a0 % 33) (q + 1) (X + T) T _ d0 d1 (by omega) (by omega) hT.out HY.out (by omega) t0 yt).mono ?_
  rintro e w2 ⟨g3, c3, a4, n4, c4, rfl, hA3, hbel⟩
  obtain ⟨hc, hf, hz2, hb2⟩ := first_of hbel
  have s0 : w2.cell? ⟨w1.heap.size, 0, none⟩ = some (.int .u64 (q + 1)) := hc 0
  have s2 : w2.cell? ⟨w1.heap.size, 2, none⟩ = some (.slice (some ⟨g2, 0, none⟩) 4 c2) := hc 2
  have hz3 : w1.heap.size < w2.heap.size := by omega
  have HA3 := (show Hid _ from hA3)
  have HB2 := (show Hid _ from hb2)
  clear hc hf hbel hA3 hb2
  go_wp2_with fail
  refine (eq_any g2 c2 g3 c3 (X + T) _ (Be4.later (HA.out.later HB2.out) ((Below.refl _ _).alloc (Nat.le_refl _) _)) (Be4.later HA3.out ((Below.refl _ _).alloc (Nat.le_refl _) _))).mono ?_
  rintro e w3 ⟨rfl, nq, rfl⟩
  go_wp2
  go_ret
  exact ⟨rfl, below_drewN ((HB.out.trans (HB2.out.mono (by omega))).alloc (by omega) _) _⟩

/-! ### THE WALK: the Go text returns true, and writes nothing that was there -/
theorem walk (a0 : Int) (a1 : Int) (w0 : (Lit.int .u8 a0).wf = true) (w1 : (Lit.int .u32 a1).wf = true) (w : World) :
    Calls Yba.prog 6 #[.int .u8 a0, .int .u32 a1] w fun e w' => e = .returned (.bool true) ∧ Below w.heap.size w w' := by
  have b0 := bounds_u8 w0
  have b1 := bounds_u32 w1
  obtain ⟨m, q, T, hp⟩ := part_of a0 a1 b1.1 (by omega)
  have hm := hp.m0
  have hq := hp.q1
  have hq0 := hp.q0
  by_cases h : q = m
  · subst h
    by_cases hz : q = 0
    · subst hz
      exact walk_one a0 a1 T b0.1 (by omega) b1.1 (by omega) w hp
    · obtain ⟨n, rfl⟩ : ∃ n, q = n + 1 := ⟨q - 1, by omega⟩
      exact walk_top a0 a1 n T b0.1 (by omega) b1.1 (by omega) w hp (by omega)
  · exact walk_low a0 a1 m q T b0.1 (by omega) b1.1 (by omega) w hp (by omega)

/-! ### THE ROW's STEP: WRITTEN OUT: LEAVE IT -/
set_option maxRecDepth 100000 in
theorem lifted (os : Os) (started : os.Started) (H : Type) (enc : TypeId × Value → H) :
    ReturnsInHanded {} Yba.checked os 6 .any (Rows.lawS0324CAdjacentSpec.pre6 enc Yba.prog Yba.f6 Rows.lawS0324CAdjacentRow.domain false) (Rows.lawS0324CAdjacentSpec.post enc Yba.prog Yba.f6 false true false false) := by
  refine returnsInHanded_of_change (C := Yba.checked) own started (by kernel_rfl) Yba.func6
    (ChangeSpec.witness6 (enc := enc) (C := Yba.checked) false ⟨#[], #[.int .u8 0, .int .u32 0], []⟩ 8 (by kernel_rfl) (by kernel_rfl) (by kernel_rfl) (by kernel_rfl)) ?_
  intro W base args ds gs before hval0 hW hcnd _
  have hval : ∀ (j : Nat) t v, Yba.f6.params[j]? = some t → args[j]? = some v → Value.okWide Yba.prog W .any base t v := hval0
  have hW' := hW
  obtain ⟨p, q, hA0, hV, rfl, hfz, hnd⟩ := hW
  have hA : DataW.TrodAll enc Yba.prog W 0 (fun _ => true) true Yba.f6.params.toList args.toList ds p := hA0
  rw [Yba.params6] at hA hval
  obtain ⟨v0, vs0, d0, ds0, p0, q0, hargs, rfl, rfl, h0, r0⟩ := trodAll_cons hA
  obtain ⟨v1, vs1, d1, ds1, p1, q1, rfl, rfl, rfl, h1, r1⟩ := trodAll_cons r0
  obtain ⟨rfl, rfl, rfl⟩ := trodAll_nil r1
  obtain rfl : args = #[v0, v1] := by cases args; simp_all
  obtain ⟨rfl, rfl⟩ := trodVars_none hV
  obtain ⟨a0, rfl, rfl, rfl, w0⟩ := open_int Yba.underlying5 (hval 0 5 v0 rfl rfl) h0
  obtain ⟨a1, rfl, rfl, rfl, w1⟩ := open_int Yba.underlying40 (hval 1 40 v1 rfl rfl) h1
  clear hA0 hval0
  refine (walk a0 a1 w0 w1 W).mono fun e W' ⟨he, bel⟩ => ?_
  subst he
  exact ⟨_, rfl, _, _, _, [], _, [], hW', trodAll_mk1 (shut_bool Yba.underlying4 _), (trodAll_cons_mk (shut_int Yba.underlying5 w0) (trodAll_cons_mk (shut_int Yba.underlying40 w1) trodAll_mk0)), rfl, bel.frame _, fun h => by cases h⟩

theorem over : Rows.lawS0324CAdjacentRow.holds Yba.pinned (OpenSpec.ofChange Rows.lawS0324CAdjacentSpec) :=
  OpenClaim.holds_of_wide 6 Yba.f6 rfl rfl rfl rfl rfl rfl rfl ⟨rfl, rfl, rfl, rfl, rfl⟩ rfl rfl rfl rfl rfl (by kernel_rfl) Yba.func6 (by kernel_rfl)
    (of_decide_eq_true (by kernel_rfl)) (by unfold Func.isWrapper; first | (rw [if_pos (by decide +kernel)]; kernel_rfl) | (rw [if_neg (by decide +kernel)]; exact ⟨rfl, rfl⟩))
    (fun os started H enc _ => lifted os started H enc)

/-- ████ THE STATEMENT ████ -/
theorem proved : Rows.LawS0324CAdjacentSaid :=
  over
end Go.Proofs.Ybulkfrm.lawS0324CAdjacent

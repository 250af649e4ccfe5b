/-
  The proof of Rows.LawS0324CExactSaid: the walk over the contracts of Keys, Range and Part; the frame is the skeleton tool's, its end said by 'Below'.
-/
import Derived.Test.YbulkfrmRows
import Derived.Test.YbulkfrmPart
import Derived.WalkSmall
import Derived.ProofKit
import Derived.OpenShut
import Derived.ShutString
import Derived.ChangeOld
import Derived.Below
import Derived.WalkSpells
import Derived.WalkLawsBesides
import Derived.Deep.RegionWith
namespace Go.Proofs.Ybulkfrm.lawS0324CExact
open Go.ChangeShapes Go.WideShapes Go.ChangeAt Go.RowKit
set_option linter.unusedVariables false

theorem own : ownKnob Yba.prog.godebug = none := by kernel_rfl

theorem mask_zero {a0 a1 m q T : Int} (hp : Part a0 a1 m q T) (h : a0 % 33 = 0) : m = 0 := by
  have := hp.mask
  rw [h] at this
  rw [← this]
  decide
/-- The four bytes that zzs0324cbe makes. -/
theorem be4_new (w : World) (v : Int) : Be4 (w.alloc (.cells #[.int .u8 (v / 16777216), .int .u8 (v / 65536 % 256), .int .u8 (v / 256 % 256), .int .u8 (v % 256)] 5)) w.heap.size v :=
  ⟨by simp, by simp, by simp, by simp⟩
theorem be4_drawn {w : World} {g : Nat} {v : Int} (h : Be4 w g v) (n : Nat) : Be4 (w.drewN n) g v := ⟨h.b0, h.b1, h.b2, h.b3⟩
theorem below_more {w : World} (O : Obj) : Below w.heap.size w (w.alloc O) := (Below.refl _ _).alloc (Nat.le_refl _) _

theorem be_zero (w : World) : Calls Yba.prog 12 #[.int .u32 0] w fun e w' => e = .returned (.slice (some ⟨w.heap.size, 0, none⟩) 4 4) ∧ w' = w.alloc (.cells #[.int .u8 0, .int .u8 0, .int .u8 0, .int .u8 0] 5) :=
  be_any 0 w (by omega) (by omega)
/-- '== nil' of a nil slice. -/
theorem nil_nil (w : World) : (binOp .eql 22 (.slice none 0 0) (.slice none 0 0)).run Yba.prog w = .ok (.bool true) w := by
  kernel_rfl

set_option maxHeartbeats 1600000 in
theorem walk_low (a0 a1 m q T : Int) (h0 : 0 ≤ a0) (h1 : a0 ≤ 255) (h2 : 0 ≤ a1) (h3 : a1 < 4294967296) (w : World) (hp : Part a0 a1 m q T) (hlt : q + 1 ≤ m) :
    Calls Yba.prog 5 #[.int .u8 a0, .int .u32 a1] w fun e w' => e = .returned (.bool true) ∧ Below w.heap.size w w' := by
  have d2 : 0 < a0 % 33 := by
    by_cases h : a0 % 33 = 0
    · have := mask_zero hp h; have := hp.q0; omega
    · omega
  have eM := hp.mask
  have eA := hp.part
  have q0 := hp.q0
  have m1 := hp.m1
  have t0 := hp.t0
  have hT : Hid (2 ^ (32 - a0 % 33).toNat = T) := hp.width
  obtain ⟨X, hX⟩ : ∃ X, X = q * T := ⟨_, rfl⟩
  have x0 : 0 ≤ X := by rw [hX]; exact Int.mul_nonneg q0 (by omega)
  have xt : X + T < 4294967296 := by rw [hX]; exact mul_lt hlt hp.whole t0
  have HX : Hid (q * T = X) := hX.symm
  have b0 : (q == m) = false := beq_eq_false_iff_ne.2 (by omega)
  have d0 : 0 ≤ a0 % 33 := by omega
  have d1 : a0 % 33 ≤ 32 := by omega
  have eX : q * 2 ^ (32 - a0 % 33).toNat % 4294967296 = X := by rw [hT.out, ← hX]; omega
  have eY : (q + 1) * 2 ^ (32 - a0 % 33).toNat % 4294967296 = X + T := by rw [hT.out, mul_step, ← hX]; omega
  clear hX hp
  go_enter Yba.func5, Yba.ntmps5
  go_wp2_with fail
  refine (range_any (a0 % 33) q X T _ d0 d1 q0 (by omega) hT.out HX.out x0 t0 xt).mono ?_
  rintro e w1 ⟨g1, c1, g2, c2, rfl, hA1, hA2, hbel⟩
  obtain ⟨hc, hf, hz, hb1⟩ := first_of hbel
  have hz1 : w.heap.size < w1.heap.size := by omega
  have Q1 : Hid (∀ A : Obj, Calls Yba.prog 11 #[.slice (some ⟨g1, 0, none⟩) 4 c1, .slice (some ⟨w1.heap.size + 1, 0, none⟩) 4 4] (((w1.alloc A).alloc (.cells #[.int .u8 (X / 16777216), .int .u8 (X / 65536 % 256), .int .u8 (X / 256 % 256), .int .u8 (X % 256)] 5)).drew) fun e w' => e = .returned (.bool true) ∧ ∃ n, w' = (((w1.alloc A).alloc (.cells #[.int .u8 (X / 16777216), .int .u8 (X / 65536 % 256), .int .u8 (X / 256 % 256), .int .u8 (X % 256)] 5)).drew).drewN n) := fun A =>
    eq_any g1 c1 (w1.heap.size + 1) 4 X _ (be4_drawn ((hA1.later (below_more A)).later (below_more _)) 1) (by
      have := be4_new (w1.alloc A) X
      rw [show (w1.alloc A).heap.size = w1.heap.size + 1 by simp] at this
      exact be4_drawn this 1)
  have Q2 : Hid (∀ (A B : Obj) (k : Nat), Calls Yba.prog 11 #[.slice (some ⟨g2, 0, none⟩) 4 c2, .slice (some ⟨w1.heap.size + 1 + 1, 0, none⟩) 4 4] ((((w1.alloc A).alloc B).drewN k).alloc (.cells #[.int .u8 ((X + T) / 16777216), .int .u8 ((X + T) / 65536 % 256), .int .u8 ((X + T) / 256 % 256), .int .u8 ((X + T) % 256)] 5)) fun e w' => e = .returned (.bool true) ∧ ∃ n, w' = ((((w1.alloc A).alloc B).drewN k).alloc (.cells #[.int .u8 ((X + T) / 16777216), .int .u8 ((X + T) / 65536 % 256), .int .u8 ((X + T) / 256 % 256), .int .u8 ((X + T) % 256)] 5)).drewN n) := fun A B k =>
    eq_any g2 c2 (w1.heap.size + 1 + 1) 4 (X + T) _ ((be4_drawn ((hA2.later (below_more A)).later (below_more B)) k).later (below_more _)) (by
      have := be4_new (((w1.alloc A).alloc B).drewN k) (X + T)
      rw [show (((w1.alloc A).alloc B).drewN k).heap.size = w1.heap.size + 1 + 1 by simp] at this
      exact this)
  have HE : Hid (∀ (A B C : Obj) (k n : Nat), Below w.heap.size w (((((w1.alloc A).alloc B).drewN k).alloc C).drewN n)) := fun A B C k n =>
    below_drewN ((below_drewN ((hb1.alloc (by omega) A).alloc (by simp; omega) B) k).alloc (by simp; omega) C) n
  clear hA1 hA2 hbel hc hf hb1
  go_wp2_with fail
  go_region_with (first | (go_at_call 12; refine (be_any X _ x0 (by omega)).mono ?_; rintro e w2 ⟨rfl, rfl⟩) | (go_at_call 11; refine Calls.mono (Q1.out _) ?_; rintro e w3 ⟨rfl, nq, rfl⟩))
  all_goals go_wp2_with fail
  all_goals simp only [eY]
  all_goals go_region_with (first | (go_at_call 12; refine (be_any (X + T) _ (by omega) xt).mono ?_; rintro e w4 ⟨rfl, rfl⟩) | (go_at_call 11; refine Calls.mono (Q2.out _ _ _) ?_; rintro e w5 ⟨rfl, nq2, rfl⟩))
  all_goals go_wp2
  all_goals go_ret
  all_goals exact ⟨rfl, HE.out _ _ _ _ _⟩

set_option maxHeartbeats 1600000 in
theorem walk_last (a0 a1 q T : Int) (h0 : 0 ≤ a0) (h1 : a0 ≤ 255) (h2 : 0 ≤ a1) (h3 : a1 < 4294967296) (w : World) (hp : Part a0 a1 q q T) (d2 : 0 < a0 % 33) :
    Calls Yba.prog 5 #[.int .u8 a0, .int .u32 a1] w fun e w' => e = .returned (.bool true) ∧ Below w.heap.size w w' := by
  have hn := nil_nil
  have eM := hp.mask
  have eA := hp.part
  have q0 := hp.q0
  have m1 := hp.m1
  have t0 := hp.t0
  have hT : Hid (2 ^ (32 - a0 % 33).toNat = T) := hp.width
  obtain ⟨X, hX⟩ : ∃ X, X = q * T := ⟨_, rfl⟩
  have x0 : 0 ≤ X := by rw [hX]; exact Int.mul_nonneg q0 (by omega)
  have xt : Hid (X + T = 4294967296) := by rw [hX, ← mul_step]; exact hp.whole
  have x1 : X < 4294967296 := by have := xt.out; omega
  have HX : Hid (q * T = X) := hX.symm
  have d0 : 0 ≤ a0 % 33 := by omega
  have d1 : a0 % 33 ≤ 32 := by omega
  have eX : q * 2 ^ (32 - a0 % 33).toNat % 4294967296 = X := by rw [hT.out, ← hX]; omega
  clear hX hp
  go_enter Yba.func5, Yba.ntmps5
  go_wp2_with fail
  refine (range_last (a0 % 33) q X T _ d0 d1 q0 (by omega) hT.out HX.out x0 t0 xt.out).mono ?_
  rintro e w1 ⟨g1, c1, rfl, hA1, hbel⟩
  obtain ⟨hc, hf, hz, hb1⟩ := first_of hbel
  have hz1 : w.heap.size < w1.heap.size := by omega
  have Q1 : Hid (∀ A : Obj, Calls Yba.prog 11 #[.slice (some ⟨g1, 0, none⟩) 4 c1, .slice (some ⟨w1.heap.size + 1, 0, none⟩) 4 4] (((w1.alloc A).alloc (.cells #[.int .u8 (X / 16777216), .int .u8 (X / 65536 % 256), .int .u8 (X / 256 % 256), .int .u8 (X % 256)] 5)).drew) fun e w' => e = .returned (.bool true) ∧ ∃ n, w' = (((w1.alloc A).alloc (.cells #[.int .u8 (X / 16777216), .int .u8 (X / 65536 % 256), .int .u8 (X / 256 % 256), .int .u8 (X % 256)] 5)).drew).drewN n) := fun A =>
    eq_any g1 c1 (w1.heap.size + 1) 4 X _ (be4_drawn ((hA1.later (below_more A)).later (below_more _)) 1) (by
      have := be4_new (w1.alloc A) X
      rw [show (w1.alloc A).heap.size = w1.heap.size + 1 by simp] at this
      exact be4_drawn this 1)
  have HE : Hid (∀ (A B : Obj) (k : Nat), Below w.heap.size w (((w1.alloc A).alloc B).drewN k)) := fun A B k =>
    below_drewN ((hb1.alloc (by omega) A).alloc (by simp; omega) B) k
  clear hA1 hbel hc hf hb1
  go_wp2_with fail
  go_region_with (first | (go_at_call 12; refine (be_any X _ x0 x1).mono ?_; rintro e w2 ⟨rfl, rfl⟩) | (go_at_call 11; refine Calls.mono (Q1.out _) ?_; rintro e w3 ⟨rfl, nq, rfl⟩))
  all_goals go_wp2
  all_goals go_ret
  all_goals exact ⟨rfl, HE.out _ _ _⟩

set_option maxHeartbeats 1600000 in
theorem walk_zero (a0 a1 T : Int) (h0 : 0 ≤ a0) (h1 : a0 ≤ 255) (h2 : 0 ≤ a1) (h3 : a1 < 4294967296) (w : World) (hp : Part a0 a1 0 0 T) (d2 : a0 % 33 = 0) :
    Calls Yba.prog 5 #[.int .u8 a0, .int .u32 a1] w fun e w' => e = .returned (.bool true) ∧ Below w.heap.size w w' := by
  have hn := nil_nil
  have eM := hp.mask
  have eA := hp.part
  have t0 := hp.t0
  have hT : Hid (2 ^ (32 - (0 : Int)).toNat = T) := by have := hp.width; rwa [d2] at this
  have xt0 : 0 + T = 4294967296 := by have := hp.whole; simpa using this
  have xt : Hid (0 + T = 4294967296) := xt0
  clear xt0
  have HX : Hid (0 * T = 0) := Int.zero_mul T
  rw [d2] at eM
  clear hp
  go_enter Yba.func5, Yba.ntmps5
  go_wp2_with fail
  refine (range_last 0 0 0 T _ (by omega) (by omega) (by omega) (by omega) hT.out HX.out (by omega) t0 xt.out).mono ?_
  rintro e w1 ⟨g1, c1, rfl, hA1, hbel⟩
  obtain ⟨hc, hf, hz, hb1⟩ := first_of hbel
  have hz1 : w.heap.size < w1.heap.size := by omega
  have Q1 : Hid (∀ A : Obj, Calls Yba.prog 11 #[.slice (some ⟨g1, 0, none⟩) 4 c1, .slice (some ⟨w1.heap.size + 1, 0, none⟩) 4 4] (((w1.alloc A).alloc (.cells #[.int .u8 0, .int .u8 0, .int .u8 0, .int .u8 0] 5)).drew) fun e w' => e = .returned (.bool true) ∧ ∃ n, w' = (((w1.alloc A).alloc (.cells #[.int .u8 0, .int .u8 0, .int .u8 0, .int .u8 0] 5)).drew).drewN n) := fun A =>
    eq_any g1 c1 (w1.heap.size + 1) 4 0 _ (be4_drawn ((hA1.later (below_more A)).later (below_more _)) 1) (by
      have := be4_new (w1.alloc A) 0
      rw [show (w1.alloc A).heap.size = w1.heap.size + 1 by simp] at this
      exact be4_drawn this 1)
  have HE : Hid (∀ (A B : Obj) (k : Nat), Below w.heap.size w (((w1.alloc A).alloc B).drewN k)) := fun A B k =>
    below_drewN ((hb1.alloc (by omega) A).alloc (by simp; omega) B) k
  clear hA1 hbel hc hf hb1
  go_wp2_with fail
  go_region_with (first | (go_at_call 12; refine (be_zero _).mono ?_; rintro e w2 ⟨rfl, rfl⟩) | (go_at_call 11; refine Calls.mono (Q1.out _) ?_; rintro e w3 ⟨rfl, nq, rfl⟩))
  all_goals go_wp2
  all_goals go_ret
  all_goals exact ⟨rfl, HE.out _ _ _⟩

/-! ### THE WALK: the Go text returns true, and writes nothing that was there -/
theorem walk (a0 : Int) (a1 : Int) (w0 : (Lit.int .u8 a0).wf = true) (w1 : (Lit.int .u32 a1).wf = true) (w : World) :
    Calls Yba.prog 5 #[.int .u8 a0, .int .u32 a1] w fun e w' => e = .returned (.bool true) ∧ Below w.heap.size w w' := by
  have b0 := bounds_u8 w0
  have b1 := bounds_u32 w1
  obtain ⟨m, q, T, hp⟩ := part_of a0 a1 b1.1 (by omega)
  have hq := hp.q1
  have hq0 := hp.q0
  by_cases h : q = m
  · subst h
    by_cases hz : a0 % 33 = 0
    · have h0 := mask_zero hp hz
      subst h0
      exact walk_zero a0 a1 T b0.1 (by omega) b1.1 (by omega) w hp hz
    · exact walk_last a0 a1 q T b0.1 (by omega) b1.1 (by omega) w hp (by omega)
  · exact walk_low a0 a1 m q T b0.1 (by omega) b1.1 (by omega) w hp (by omega)

/-! ### THE ROW's STEP: WRITTEN OUT: LEAVE IT -/
set_option maxRecDepth 100000 in
theorem lifted (os : Os) (started : os.Started) (H : Type) (enc : TypeId × Value → H) :
    ReturnsInHanded {} Yba.checked os 5 .any (Rows.lawS0324CExactSpec.pre6 enc Yba.prog Yba.f5 Rows.lawS0324CExactRow.domain false) (Rows.lawS0324CExactSpec.post enc Yba.prog Yba.f5 false true false false) := by
  refine returnsInHanded_of_change (C := Yba.checked) own started (by kernel_rfl) Yba.func5
    (ChangeSpec.witness6 (enc := enc) (C := Yba.checked) false ⟨#[], #[.int .u8 0, .int .u32 0], []⟩ 8 (by kernel_rfl) (by kernel_rfl) (by kernel_rfl) (by kernel_rfl)) ?_
  intro W base args ds gs before hval0 hW hcnd _
  have hval : ∀ (j : Nat) t v, Yba.f5.params[j]? = some t → args[j]? = some v → Value.okWide Yba.prog W .any base t v := hval0
  have hW' := hW
  obtain ⟨p, q, hA0, hV, rfl, hfz, hnd⟩ := hW
  have hA : DataW.TrodAll enc Yba.prog W 0 (fun _ => true) true Yba.f5.params.toList args.toList ds p := hA0
  rw [Yba.params5] at hA hval
  obtain ⟨v0, vs0, d0, ds0, p0, q0, hargs, rfl, rfl, h0, r0⟩ := trodAll_cons hA
  obtain ⟨v1, vs1, d1, ds1, p1, q1, rfl, rfl, rfl, h1, r1⟩ := trodAll_cons r0
  obtain ⟨rfl, rfl, rfl⟩ := trodAll_nil r1
  obtain rfl : args = #[v0, v1] := by cases args; simp_all
  obtain ⟨rfl, rfl⟩ := trodVars_none hV
  obtain ⟨a0, rfl, rfl, rfl, w0⟩ := open_int Yba.underlying5 (hval 0 5 v0 rfl rfl) h0
  obtain ⟨a1, rfl, rfl, rfl, w1⟩ := open_int Yba.underlying40 (hval 1 40 v1 rfl rfl) h1
  clear hA0 hval0
  refine (walk a0 a1 w0 w1 W).mono fun e W' ⟨he, bel⟩ => ?_
  subst he
  exact ⟨_, rfl, _, _, _, [], _, [], hW', trodAll_mk1 (shut_bool Yba.underlying4 _), (trodAll_cons_mk (shut_int Yba.underlying5 w0) (trodAll_cons_mk (shut_int Yba.underlying40 w1) trodAll_mk0)), rfl, bel.frame _, fun h => by cases h⟩

theorem over : Rows.lawS0324CExactRow.holds Yba.pinned (OpenSpec.ofChange Rows.lawS0324CExactSpec) :=
  OpenClaim.holds_of_wide 5 Yba.f5 rfl rfl rfl rfl rfl rfl rfl ⟨rfl, rfl, rfl, rfl, rfl⟩ rfl rfl rfl rfl rfl (by kernel_rfl) Yba.func5 (by kernel_rfl)
    (of_decide_eq_true (by kernel_rfl)) (by unfold Func.isWrapper; first | (rw [if_pos (by decide +kernel)]; kernel_rfl) | (rw [if_neg (by decide +kernel)]; exact ⟨rfl, rfl⟩))
    (fun os started H enc _ => lifted os started H enc)

/-- ████ THE STATEMENT ████ -/
theorem proved : Rows.LawS0324CExactSaid :=
  over
end Go.Proofs.Ybulkfrm.lawS0324CExact

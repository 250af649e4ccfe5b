/-
  The proof of Rows.LawS0323AConstructorSaid, in the frame that the skeleton tool wrote for this function.
-/
import Derived.Test.YbulkfqyRows
import Derived.Test.YbulkfqyBase
import Derived.WalkKit
import Derived.ProofKit
import Derived.OpenShut
import Derived.ShutString
namespace Go.Proofs.Ybulkfqy.lawS0323AConstructor
open Go.ChangeShapes Go.WideShapes Go.ChangeAt Go.RowKit
open Go.ChangeMaps (open_string shut_string)
set_option linter.unusedVariables false      -- a walk need not use every 'w<i>' (that an integer argument fits its kind)

theorem own : ownKnob Yba.prog.godebug = none := by kernel_rfl

set_option maxRecDepth 100000 in
set_option maxHeartbeats 800000 in
theorem newDec0 (w : World) (Z : Array Value) (hz : ∀ w, (zeroValue 86).run Yba.prog w = .ok (.agg Z) w) (hs : Z.size = 139) :
    Calls Yba.prog 9 #[] w fun e w' => e = .returned (.pointer (some ⟨w.heap.size, 0, none⟩)) ∧
      w' = (w.alloc (.cells (((((((Z.setIfInBounds 7 (.int .i64 1)).setIfInBounds 15 (.int .i64 3)).setIfInBounds 29 (.bool true)).setIfInBounds 38 (.int .i64 4)).setIfInBounds 52 (.bool true)).setIfInBounds 61 (.int .i64 5)).setIfInBounds 75 (.bool true)) 86)).alloc (.cells #[.int .i64 3, .int .i64 4, .int .i64 5] 3) := by
  go_enter Yba.func9, Yba.ntmps9
  go_wp2
  refine wp_loop_rounds 4 ?_
  rw [rounds_succ]
  go_wp2
  rw [rounds_succ]
  go_wp2
  rw [rounds_succ]
  go_wp2
  rw [rounds_succ]
  go_wp2
  go_ret
  exact ⟨rfl, rfl⟩

/-- newDecoder: the decoder lies in the first new block; its three indexes bear their numbers and their mark. -/
theorem newDec (w : World) : Calls Yba.prog 9 #[] w fun e w' => ∃ Y : Array Value, e = .returned (.pointer (some ⟨w.heap.size, 0, none⟩)) ∧
    w' = (w.alloc (.cells Y 86)).alloc (.cells #[.int .i64 3, .int .i64 4, .int .i64 5] 3) ∧ Y.size = 139 ∧
    (∀ h : 15 < Y.size, Y[15]'h = .int .i64 3) ∧ (∀ h : 29 < Y.size, Y[29]'h = .bool true) ∧
    (∀ h : 38 < Y.size, Y[38]'h = .int .i64 4) ∧ (∀ h : 52 < Y.size, Y[52]'h = .bool true) ∧
    (∀ h : 61 < Y.size, Y[61]'h = .int .i64 5) ∧ (∀ h : 75 < Y.size, Y[75]'h = .bool true) := by
  obtain ⟨Z, hz, hs, -⟩ := zero86
  refine (newDec0 w Z hz hs).mono fun e w' h => ⟨_, h.1, h.2, by simp [hs], ?_, ?_, ?_, ?_, ?_, ?_⟩ <;> (intro h; simp [hs])

set_option maxRecDepth 100000 in
set_option maxHeartbeats 800000 in
theorem walk (a0 : Int) (w0 : (Lit.int .i64 a0).wf = true) (w : World) :
    Calls Yba.prog 5 #[.int .i64 a0] w fun e w' => e = .returned (.bool true) ∧ Grown w w' := by
  by_cases h3 : a0 = 3
  · subst h3
    go_enter Yba.func5, Yba.ntmps5
    go_wp2_with (first | (go_at_call 9; refine (newDec _).mono ?_; rintro e w' ⟨Y, rfl, rfl, hs, c15, c29, c38, c52, c61, c75⟩) | go_in)
    go_ret
    exact ⟨rfl, by repeat (first | exact Grown.refl _ | apply Grown.drew | apply Grown.alloc)⟩
  · by_cases h4 : a0 = 4
    · subst h4
      go_enter Yba.func5, Yba.ntmps5
      go_wp2_with (first | (go_at_call 9; refine (newDec _).mono ?_; rintro e w' ⟨Y, rfl, rfl, hs, c15, c29, c38, c52, c61, c75⟩) | go_in)
      go_ret
      exact ⟨rfl, by repeat (first | exact Grown.refl _ | apply Grown.drew | apply Grown.alloc)⟩
    · have b3 : (a0 == 3) = false := beq_eq_false_iff_ne.2 h3
      have b4 : (a0 == 4) = false := beq_eq_false_iff_ne.2 h4
      clear h3 h4
      go_enter Yba.func5, Yba.ntmps5
      go_wp2_with (first | (go_at_call 9; refine (newDec _).mono ?_; rintro e w' ⟨Y, rfl, rfl, hs, c15, c29, c38, c52, c61, c75⟩) | go_in)
      go_ret
      exact ⟨rfl, by repeat (first | exact Grown.refl _ | apply Grown.drew | apply Grown.alloc)⟩

/-! ### THE ROW's STEP: WRITTEN OUT: LEAVE IT -/
set_option maxRecDepth 100000 in
theorem lifted (os : Os) (started : os.Started) (H : Type) (enc : TypeId × Value → H) :
    ReturnsInHanded {} Yba.checked os 5 .any (Rows.lawS0323AConstructorSpec.pre6 enc Yba.prog Yba.f5 Rows.lawS0323AConstructorRow.domain false) (Rows.lawS0323AConstructorSpec.post enc Yba.prog Yba.f5 false true false false) := by
  refine returnsInHanded_of_change (C := Yba.checked) own started (by kernel_rfl) Yba.func5
    (ChangeSpec.witness6 (enc := enc) (C := Yba.checked) false ⟨#[], #[.int .i64 0], []⟩ 8 (by kernel_rfl) (by kernel_rfl) (by kernel_rfl) (by kernel_rfl)) ?_
  intro W base args ds gs before hval0 hW hcnd _
  have hval : ∀ (j : Nat) t v, Yba.f5.params[j]? = some t → args[j]? = some v → Value.okWide Yba.prog W .any base t v := hval0
  have hW' := hW
  obtain ⟨p, q, hA0, hV, rfl, hfz, hnd⟩ := hW
  have hA : DataW.TrodAll enc Yba.prog W 0 (fun _ => true) true Yba.f5.params.toList args.toList ds p := hA0
  rw [Yba.params5] at hA hval
  obtain ⟨v0, vs0, d0, ds0, p0, q0, hargs, rfl, rfl, h0, r0⟩ := trodAll_cons hA
  obtain ⟨rfl, rfl, rfl⟩ := trodAll_nil r0
  obtain rfl : args = #[v0] := by cases args; simp_all
  obtain ⟨rfl, rfl⟩ := trodVars_none hV
  obtain ⟨a0, rfl, rfl, rfl, w0⟩ := open_int Yba.underlying3 (hval 0 3 v0 rfl rfl) h0
  clear hA0 hval0
  simp only [List.append_nil] at hW'
  refine (walk a0 w0 W).mono fun e W' ⟨he, hg⟩ => ?_
  subst he
  exact ⟨_, rfl, post_of_same (pa := []) (pv := []) hW' (fun _ _ _ => (trodAll_cons_mk (shut_bool Yba.underlying4 _) trodAll_mk0)) (fun sp _ => (trodAll_cons_mk (shut_int Yba.underlying3 w0) trodAll_mk0)) (fun _ _ => rfl) rfl
    (hg.frame _) hg.2.1 (ok_one (by kernel_rfl) rfl (okWide_bool_mk Yba.underlying4 _))⟩

theorem over : Rows.lawS0323AConstructorRow.holds Yba.pinned (OpenSpec.ofChange Rows.lawS0323AConstructorSpec) :=
  OpenClaim.holds_of_wide 5 Yba.f5 rfl rfl rfl rfl rfl rfl rfl ⟨rfl, rfl, rfl, rfl, rfl⟩ rfl rfl rfl rfl rfl (by kernel_rfl) Yba.func5 (by kernel_rfl)
    (of_decide_eq_true (by kernel_rfl)) (by unfold Func.isWrapper; first | (rw [if_pos (by decide +kernel)]; kernel_rfl) | (rw [if_neg (by decide +kernel)]; exact ⟨rfl, rfl⟩))
    (fun os started H enc _ => lifted os started H enc)

/-- ████ THE STATEMENT ████ -/
theorem proved : Rows.LawS0323AConstructorSaid :=
  over
end Go.Proofs.Ybulkfqy.lawS0323AConstructor

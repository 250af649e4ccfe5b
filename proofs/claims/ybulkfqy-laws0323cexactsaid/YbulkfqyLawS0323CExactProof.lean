/-
  The proof of Rows.LawS0323CExactSaid, in the frame that the skeleton tool wrote for this function.
-/
import Derived.Test.YbulkfqyRows
import Derived.WalkKit
import Derived.ProofKit
import Derived.OpenShut
import Derived.ShutString
import Derived.ChangeOld
import Derived.Below
namespace Go.Proofs.Ybulkfqy.lawS0323CExact
open Go.ChangeShapes Go.WideShapes Go.ChangeAt Go.RowKit
open Go.ChangeMaps (open_string shut_string)
set_option linter.unusedVariables false

theorem own : ownKnob Yba.prog.godebug = none := by kernel_rfl
theorem laidOut : laidOutB Yba.prog = true := by kernel_rfl

/-- WHAT THE WALK IS TOLD OF A SLICE OF INTEGERS THAT CAME IN: it is nil; or it leads to a row of 'cap' cells, the numbers 'zs' (the first 'len' are its elements, the rest its spare room), each fitting its kind. -/
def IsRow (k : IntKind) (w : World) (a : Option Addr) (len cap : Nat) (zs : List Int) : Prop :=
  (a = none ∧ len = 0 ∧ cap = 0 ∧ zs = []) ∨
  ∃ x, a = some x ∧ len ≤ cap ∧ cap ≤ maxLen ∧ zs.length = cap ∧ (∀ i, i < zs.length → w.cell? (x.add i) = some (.int k (zs.getD i 0))) ∧ ∀ n ∈ zs, (Lit.int k n).wf = true

/-! ### THE PLAIN FUNCTION: the position of an id, and the greatest position of a list -/
def posOf (n : Int) : Int := IntKind.u64.wrap (IntKind.u64.wrap n - 1)
def best (l : List Int) : Int := l.foldl (fun m n => if m < posOf n then posOf n else m) 0
theorem best_snoc (zs : List Int) (k : Nat) (h : k < zs.length) :
    best (zs.take (k + 1)) = if best (zs.take k) < posOf (zs[k]?.getD 0) then posOf (zs[k]?.getD 0) else best (zs.take k) := by
  have e : zs[k]?.getD 0 = zs[k] := by simp [h]
  rw [e, List.take_succ_eq_append_getElem h]
  unfold best
  rw [List.foldl_append]
  rfl
theorem posOf_zero : posOf 0 = 18446744073709551615 := by decide
theorem ret_int {k : IntKind} {a b : Int} (h : a = b) : Ending.returned (.int k a) = .returned (.int k b) := by rw [h]
theorem val_int {k : IntKind} {a b : Int} (h : a = b) : Value.int k a = .int k b := by rw [h]

/-! ### THE WALKS -/
set_option maxHeartbeats 400000 in
theorem pos_any (n : Int) (w : World) : Calls Yba.prog 12 #[.int .i64 n] w fun e w' => e = .returned (.int .u64 (posOf n)) ∧ w' = w := by
  by_cases h : n = 0
  · subst h
    go_enter Yba.func12, Yba.ntmps12
    go_wp2
    go_ret
    exact ⟨ret_int posOf_zero.symm, rfl⟩
  · have b0 : (n == 0) = false := beq_eq_false_iff_ne.2 h
    clear h
    go_enter Yba.func12, Yba.ntmps12
    go_wp2
    go_ret
    exact ⟨rfl, rfl⟩

set_option maxHeartbeats 400000 in
theorem last_any (b off len cap : Nat) (zs : List Int) (w : World) (hlen : len ≤ 1024) (hlc : len ≤ zs.length) (hcell : ∀ i, i < zs.length → w.cell? ⟨b, off + i, none⟩ = some (.int .i64 (zs.getD i 0))) :
    Calls Yba.prog 10 #[.slice (some ⟨b, off, none⟩) len cap] w fun e w' => e = .returned (.int .u64 (best (zs.take len))) ∧ w' = w := by
  go_enter Yba.func10, Yba.ntmps10
  go_wp2
  go_loop [3, 8] (fun m i => ∃ k : Nat, k ≤ len ∧ i = .int .i64 k ∧ m = .int .u64 (best (zs.take k))) (fun _ i => len - (intOf i).toNat)
  case atStart => exact ⟨0, Nat.zero_le _, rfl, rfl⟩
  case round =>
    obtain ⟨k, hk, rfl, rfl⟩ := hrel
    by_cases hlt : k < len
    · have hc := hcell k (by omega)
      go_wp2
      go_round
      case rel => exact ⟨k + 1, by omega, by go_num, val_int (best_snoc zs k (by omega)).symm⟩
      case measure => simp [intOf]; omega
    · obtain rfl : k = len := by omega
      go_wp2
      go_ret
      exact ⟨rfl, rfl⟩

set_option maxHeartbeats 400000 in
theorem last_empty (a : Option Addr) (cap : Nat) (w : World) :
    Calls Yba.prog 10 #[.slice a 0 cap] w fun e w' => e = .returned (.int .u64 0) ∧ w' = w := by
  go_enter Yba.func10, Yba.ntmps10
  go_wp2
  refine wp_loop_rounds 1 ?_
  rw [rounds_succ]
  go_wp2
  go_ret
  exact ⟨rfl, rfl⟩

set_option maxHeartbeats 400000 in
theorem model_empty (a : Option Addr) (cap : Nat) (w : World) :
    Calls Yba.prog 11 #[.slice a 0 cap] w fun e w' => e = .returned (.int .u64 0) ∧ w' = w := by
  go_enter Yba.func11, Yba.ntmps11
  go_wp2
  refine wp_loop_rounds 1 ?_
  rw [rounds_succ]
  go_wp2
  go_ret
  exact ⟨rfl, rfl⟩

set_option maxHeartbeats 400000 in
theorem model_any (b off len cap : Nat) (zs : List Int) (w : World) (hlen : len ≤ 1024) (hlc : len ≤ zs.length) (hcell : ∀ i, i < zs.length → w.cell? ⟨b, off + i, none⟩ = some (.int .i64 (zs.getD i 0))) :
    Calls Yba.prog 11 #[.slice (some ⟨b, off, none⟩) len cap] w fun e w' => e = .returned (.int .u64 (best (zs.take len))) ∧ w' = w := by
  go_enter Yba.func11, Yba.ntmps11
  go_wp2
  go_loop [3, 4] (fun m i => ∃ k : Nat, k ≤ len ∧ i = .int .i64 k ∧ m = .int .u64 (best (zs.take k))) (fun _ i => len - (intOf i).toNat)
  case atStart => exact ⟨0, Nat.zero_le _, rfl, rfl⟩
  case round =>
    obtain ⟨k, hk, rfl, rfl⟩ := hrel
    by_cases hlt : k < len
    · have hc := hcell k (by omega)
      have hsn := best_snoc zs k (by omega)
      have HS : Hid (best (zs.take (k + 1)) = if best (zs.take k) < posOf (zs[k]?.getD 0) then posOf (zs[k]?.getD 0) else best (zs.take k)) := hsn
      clear hsn
      go_wp2_with (go_at_call 12; refine (pos_any _ _).mono ?_; rintro e w' ⟨rfl, rfl⟩)
      all_goals
        go_round
        case rel => exact ⟨k + 1, by omega, by go_num, val_int (by rw [HS.out]; first | rw [if_pos ‹_›] | rw [if_neg (by omega)])⟩
        case measure => simp [intOf]; omega
    · obtain rfl : k = len := by omega
      go_wp2
      go_ret
      exact ⟨rfl, rfl⟩

set_option maxHeartbeats 400000 in
theorem walk (a0 : Option Addr) (len0 cap0 : Nat) (z0 : List Int) (w : World) (w0 : IsRow .i64 w a0 len0 cap0 z0) :
    Calls Yba.prog 6 #[.slice a0 len0 cap0] w fun e w' => e = .returned (.bool true) ∧ Below w.heap.size w w' := by
  by_cases hbig : 1024 < len0
  · go_enter Yba.func6, Yba.ntmps6
    go_wp2
    go_ret
    exact ⟨rfl, Below.refl _ _⟩
  · by_cases hz : len0 = 0
    · subst hz
      clear hbig w0
      go_enter Yba.func6, Yba.ntmps6
      go_wp2_with (first | (go_at_call 10; refine (last_empty _ _ _).mono ?_; rintro e w' ⟨rfl, rfl⟩) | (go_at_call 11; refine (model_empty _ _ _).mono ?_; rintro e w' ⟨rfl, rfl⟩))
      go_ret
      exact ⟨rfl, Below.refl _ _⟩
    · rcases w0 with ⟨-, h, -⟩ | ⟨x, rfl, hlc, hm, hzl, hcell, -⟩
      · exact absurd h hz
      · obtain ⟨b, off, spot⟩ := x
        have hspot : spot = none := by simpa [Addr.add] using World.cell?_spot (hcell 0 (by omega))
        subst hspot
        have hcell' : ∀ i, i < z0.length → w.cell? ⟨b, off + i, none⟩ = some (.int .i64 (z0.getD i 0)) := fun i hi => by rw [← add_plain]; exact hcell i hi
        have H : Hid (∀ i, i < z0.length → w.cell? ⟨b, off + i, none⟩ = some (.int .i64 (z0.getD i 0))) := hcell'
        clear hcell hcell' hm
        have hlen : len0 ≤ 1024 := by omega
        have hlz : len0 ≤ z0.length := by omega
        clear hzl hz
        go_enter Yba.func6, Yba.ntmps6
        go_wp2_with (first | (go_at_call 10; refine (last_any _ _ _ _ z0 _ hlen hlz H.out).mono ?_; rintro e w' ⟨rfl, rfl⟩) | (go_at_call 11; refine (model_any _ _ _ _ z0 _ hlen hlz H.out).mono ?_; rintro e w' ⟨rfl, rfl⟩))
        go_ret
        exact ⟨by simp, Below.refl _ _⟩

/-! ### THE ROW's STEP: WRITTEN OUT: LEAVE IT -/
set_option maxRecDepth 100000 in
theorem lifted (os : Os) (started : os.Started) (H : Type) (enc : TypeId × Value → H) :
    ReturnsInHanded {} Yba.checked os 6 .any (Rows.lawS0323CExactSpec.pre6 enc Yba.prog Yba.f6 Rows.lawS0323CExactRow.domain false) (Rows.lawS0323CExactSpec.post enc Yba.prog Yba.f6 false true false false) := by
  refine returnsInHanded_of_change (C := Yba.checked) own started (by kernel_rfl) Yba.func6
    (ChangeSpec.witness6 (enc := enc) (C := Yba.checked) false ⟨#[], #[.slice none 0 0], []⟩ 8 (by kernel_rfl) (by kernel_rfl) (by kernel_rfl) (by kernel_rfl)) ?_
  intro W base args ds gs before hval0 hW hcnd _
  have hval : ∀ (j : Nat) t v, Yba.f6.params[j]? = some t → args[j]? = some v → Value.okWide Yba.prog W .any base t v := hval0
  have hW' := hW
  obtain ⟨p, q, hA0, hV, rfl, hfz, hnd⟩ := hW
  have hA : DataW.TrodAll enc Yba.prog W 0 (fun _ => true) true Yba.f6.params.toList args.toList ds p := hA0
  rw [Yba.params6] at hA hval
  obtain ⟨v0, vs0, d0, ds0, p0, q0, hargs, rfl, rfl, h0, r0⟩ := trodAll_cons hA
  obtain ⟨rfl, rfl, rfl⟩ := trodAll_nil r0
  obtain rfl : args = #[v0] := by cases args; simp_all
  obtain ⟨rfl, rfl⟩ := trodVars_none hV
  obtain ⟨a0, len0, cap0, rfl⟩ := okWide_slice Yba.underlying25 (hval 0 25 v0 rfl rfl)
  have k0 := h0
  have lt0 : ∀ x ∈ p0, x.block < W.heap.size := by obtain ⟨m, hm⟩ := k0; exact DataW.trod_lt m _ _ _ hm
  obtain ⟨z0, w0⟩ : ∃ zs, IsRow .i64 W a0 len0 cap0 zs := by
    obtain ⟨fuel, hf⟩ := h0
    rcases open_ints Yba.underlying25 Yba.underlying3 (by kernel_rfl) hf with ⟨hcs, _⟩ | ⟨x, l, c, zs, hcs, _, hl, hm, hz, _, hcell, hwz⟩
    · simp [Value.cells] at hcs
      obtain ⟨rfl, rfl, rfl⟩ := hcs
      exact ⟨[], .inl ⟨rfl, rfl, rfl, rfl⟩⟩
    · simp [Value.cells] at hcs
      obtain ⟨rfl, rfl, rfl⟩ := hcs
      exact ⟨zs, .inr ⟨_, rfl, hl, hm, by simpa using hz, hcell, hwz⟩⟩
  clear hA0 hval0
  refine (walk a0 len0 cap0 z0 W w0).mono fun e W' ⟨he, bel⟩ => ?_
  subst he
  exact ⟨_, rfl, _, _, _, [], _, [], hW', trodAll_mk1 (shut_bool Yba.underlying4 _), (trodAll_cons_mk (Below.trod laidOut (by kernel_rfl) (of_decide_eq_true (by kernel_rfl)) k0 bel lt0) trodAll_mk0), rfl, bel.frame _, fun h => by cases h⟩

theorem over : Rows.lawS0323CExactRow.holds Yba.pinned (OpenSpec.ofChange Rows.lawS0323CExactSpec) :=
  OpenClaim.holds_of_wide 6 Yba.f6 rfl rfl rfl rfl rfl rfl rfl ⟨rfl, rfl, rfl, rfl, rfl⟩ rfl rfl rfl rfl rfl (by kernel_rfl) Yba.func6 (by kernel_rfl)
    (of_decide_eq_true (by kernel_rfl)) (by unfold Func.isWrapper; first | (rw [if_pos (by decide +kernel)]; kernel_rfl) | (rw [if_neg (by decide +kernel)]; exact ⟨rfl, rfl⟩))
    (fun os started H enc _ => lifted os started H enc)

/-- ████ THE STATEMENT ████ -/
theorem proved : Rows.LawS0323CExactSaid := over
end Go.Proofs.Ybulkfqy.lawS0323CExact

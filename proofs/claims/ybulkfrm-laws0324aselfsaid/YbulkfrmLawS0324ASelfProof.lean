/-
  The proof of Rows.LawS0324ASelfSaid: the walk over the contracts of Place and Step; the frame is the skeleton tool's, an array of three int64 opened by hand.
-/
import Derived.Test.YbulkfrmRows
import Derived.Test.YbulkfrmOpen
import Derived.WalkSmall
namespace Go.Proofs.Ybulkfrm.lawS0324ASelf
open Go.ChangeShapes Go.WideShapes Go.ChangeAt Go.RowKit
set_option linter.unusedVariables false

/-- step behind zzs0324abuild, in the very numbers of zzs0324aslot. -/
theorem step_slot (A b c lp M ln lk : Nat) (r pl t p0 p1 p2 : Int) (pot f g : Nat → Int) (w : World) (hr : 0 ≤ r) (hr' : r ≤ 255) (h0 : 0 ≤ pl) (h1 : pl < 1 + r % 8) (h2 : 0 ≤ t) (h3 : t < 1 + r % 8) (h4 : 3 + r % 8 ≤ (M : Int)) (h6 : (M : Int) ≤ 3 + r % 8) (hlp : lp ≤ 1024)
    (hb : Built w A b c (lp + 1) (1 + r % 8) pl p0 p1 p2 pot (fun i => nodeOf f ln (lp + 1) i * 4 + kindOf g lk i)) :
    Calls Yba.prog 9 #[.pointer (some ⟨A, 0, none⟩), .slice (some ⟨b, 0, none⟩) M M, .int .i32 t] w fun e w' => e = .returned (.tuple #[.int .i32 (nodeOf f ln (lp + 1) t),
      .int .i64 (wrap64 (wrap64 (wrap64 (priceOf p0 p1 p2 (kindOf g lk t) - priceOf p0 p1 p2 (kindOf g lk pl)) + pot (nodeOf f ln (lp + 1) pl).toNat) - pot (nodeOf f ln (lp + 1) t).toNat))]) ∧ ∃ n, w' = w.drewN n := by
  have h := step_built A b c (lp + 1) M (1 + r % 8) pl t p0 p1 p2 pot (fun i => nodeOf f ln (lp + 1) i) (fun i => kindOf g lk i) w h0 h1 h2 h3 (by omega) (by omega) (by omega) (by omega) hb
    (fun i => by have := nodeOf_bd f ln (lp + 1) i (by omega); omega) (fun i => kindOf_bd g lk i)
  have e1 : ((pl.toNat : Nat) : Int) = pl := by omega
  have e2 : ((t.toNat : Nat) : Int) = t := by omega
  simp only [e1, e2] at h
  exact h
theorem cost_zero (x y : Int) : wrap64 (wrap64 (wrap64 (x - x) + y) - y) = 0 := by
  unfold wrap64; omega
set_option maxHeartbeats 800000 in
theorem self_walk (r place part : Int) (an ak ap : Option Addr) (ln cn lk ck lp cp : Nat) (ps : List Int) (p0 p1 p2 : Int) (w : World) (hr : 0 ≤ r) (hr' : r ≤ 255) (hp : 0 ≤ place) (hp' : place ≤ 255) (hlp : lp ≤ 1024)
    (hps : Row64 w ap lp ps) (f g : Nat → Int) (hf : Bytes w an ln f) (hg : Bytes w ak lk g) :
    Calls Yba.prog 4 #[.int .u8 r, .int .u8 place, .int .i32 part, .slice an ln cn, .slice ak lk ck, .agg #[.int .i64 p0, .int .i64 p1, .int .i64 p2], .slice ap lp cp] w fun e w' => e = .returned (.bool true) ∧ Below w.heap.size w w' := by
  have hb1 : Below w.heap.size w (w.alloc (.cells #[.int .i64 p0, .int .i64 p1, .int .i64 p2] 23)) := (Below.refl _ _).alloc (Nat.le_refl _) _
  have hbuild := build_any r place part an ak ap ln cn lk ck lp cp ps p0 p1 p2 (w.alloc (.cells #[.int .i64 p0, .int .i64 p1, .int .i64 p2] 23)) hr hr' hp hp' hlp (hps.later hb1) f g (hf.later hb1) (hg.later hb1)
  have HB := (show Hid _ from hbuild)
  clear hbuild
  have q0 : 0 ≤ place % (1 + r % 8) := Int.emod_nonneg _ (by omega)
  have q1 : place % (1 + r % 8) < 1 + r % 8 := Int.emod_lt_of_pos _ (by omega)
  obtain ⟨nf0, nf1⟩ := nodeOf_bd f ln (lp + 1) (place % (1 + r % 8)) (by omega)
  go_enter Yba.func4, Yba.ntmps4
  go_wp2_with fail
  refine Calls.mono HB.out ?_
  rintro e w2 ⟨A, b, c, M, pot, rfl, hM1, hM2, hB, hbel⟩
  have hR := hB.replicas
  have hb2 : Below w.heap.size w w2 := hb1.trans (hbel.mono (by simp))
  have hf2 := hf.later hb2
  have hg2 := hg.later hb2
  have hstep := step_slot A b c lp M ln lk r _ _ p0 p1 p2 pot f g w2 hr hr' q0 q1 q0 q1 hM1 hM2 hlp hB
  rw [cost_zero] at hstep
  have HS := (show Hid _ from hstep)
  clear hB hbel hb1 hf hg hps HB hstep
  go_wp2_with (go_at_call 8; refine (slot_any _ _ _ _ _ _ _ _ f g _ (by omega) (by omega) (by omega) (by omega) hf2 hg2).mono ?_; rintro e w' ⟨rfl, rfl⟩)
  refine Calls.mono HS.out ?_
  rintro e w3 ⟨rfl, nq, rfl⟩
  clear HS hf2 hg2
  go_wp2
  go_ret
  exact ⟨rfl, below_drewN hb2 _⟩

/-! ### THE WALK: the Go text returns true, and writes nothing that was there -/
theorem walk (a0 : Int) (a1 : Int) (a2 : Int) (a3 : Option Addr) (len3 cap3 : Nat) (z3 : List Int) (a4 : Option Addr) (len4 cap4 : Nat) (z4 : List Int) (x0 x1 x2 : Int) (a6 : Option Addr) (len6 cap6 : Nat) (z6 : List Int) (w : World) (w0 : (Lit.int .u8 a0).wf = true) (w1 : (Lit.int .u8 a1).wf = true) (w2 : (Lit.int .i32 a2).wf = true) (w3 : IsRow .u8 w a3 len3 cap3 z3) (w4 : IsRow .u8 w a4 len4 cap4 z4) (w6 : IsRow .i64 w a6 len6 cap6 z6) :
    Calls Yba.prog 4 #[.int .u8 a0, .int .u8 a1, .int .i32 a2, .slice a3 len3 cap3, .slice a4 len4 cap4, .agg #[.int .i64 x0, .int .i64 x1, .int .i64 x2], .slice a6 len6 cap6] w fun e w' => e = .returned (.bool true) ∧ Below w.heap.size w w' := by
  by_cases hbig : 1024 < len6
  · clear w0 w1 w2 w3 w4 w6
    go_enter Yba.func4, Yba.ntmps4
    go_wp2
    go_ret
    exact ⟨rfl, (Below.refl _ _).alloc (Nat.le_refl _) _⟩
  · have b0 := bounds_u8 w0
    have b1 := bounds_u8 w1
    exact self_walk a0 a1 a2 a3 a4 a6 len3 cap3 len4 cap4 len6 cap6 _ x0 x1 x2 w b0.1 (by omega) b1.1 (by omega) (by omega) w6.row64 _ _ w3.bytes w4.bytes

/-! ### THE ROW's STEP: WRITTEN OUT: LEAVE IT -/
set_option maxRecDepth 100000 in
theorem lifted (os : Os) (started : os.Started) (H : Type) (enc : TypeId × Value → H) :
    ReturnsInHanded {} Yba.checked os 4 .any (Rows.lawS0324ASelfSpec.pre6 enc Yba.prog Yba.f4 Rows.lawS0324ASelfRow.domain false) (Rows.lawS0324ASelfSpec.post enc Yba.prog Yba.f4 false true false false) := by
  refine returnsInHanded_of_change (C := Yba.checked) own started (by kernel_rfl) Yba.func4
    (ChangeSpec.witness6 (enc := enc) (C := Yba.checked) false ⟨#[], #[.int .u8 0, .int .u8 0, .int .i32 0, .slice none 0 0, .slice none 0 0, .agg #[.int .i64 0, .int .i64 0, .int .i64 0], .slice none 0 0], []⟩ 8 (by kernel_rfl) (by kernel_rfl) (by kernel_rfl) (by kernel_rfl)) ?_
  intro W base args ds gs before hval0 hW hcnd _
  have hval : ∀ (j : Nat) t v, Yba.f4.params[j]? = some t → args[j]? = some v → Value.okWide Yba.prog W .any base t v := hval0
  have hW' := hW
  obtain ⟨p, q, hA0, hV, rfl, hfz, hnd⟩ := hW
  have hA : DataW.TrodAll enc Yba.prog W 0 (fun _ => true) true Yba.f4.params.toList args.toList ds p := hA0
  rw [Yba.params4] at hA hval
  obtain ⟨v0, vs0, d0, ds0, p0, q0, hargs, rfl, rfl, h0, r0⟩ := trodAll_cons hA
  obtain ⟨v1, vs1, d1, ds1, p1, q1, rfl, rfl, rfl, h1, r1⟩ := trodAll_cons r0
  obtain ⟨v2, vs2, d2, ds2, p2, q2, rfl, rfl, rfl, h2, r2⟩ := trodAll_cons r1
  obtain ⟨v3, vs3, d3, ds3, p3, q3, rfl, rfl, rfl, h3, r3⟩ := trodAll_cons r2
  obtain ⟨v4, vs4, d4, ds4, p4, q4, rfl, rfl, rfl, h4, r4⟩ := trodAll_cons r3
  obtain ⟨v5, vs5, d5, ds5, p5, q5, rfl, rfl, rfl, h5, r5⟩ := trodAll_cons r4
  obtain ⟨v6, vs6, d6, ds6, p6, q6, rfl, rfl, rfl, h6, r6⟩ := trodAll_cons r5
  obtain ⟨rfl, rfl, rfl⟩ := trodAll_nil r6
  obtain rfl : args = #[v0, v1, v2, v3, v4, v5, v6] := by cases args; simp_all
  obtain ⟨rfl, rfl⟩ := trodVars_none hV
  obtain ⟨a0, rfl, rfl, rfl, w0⟩ := open_int Yba.underlying5 (hval 0 5 v0 rfl rfl) h0
  obtain ⟨a1, rfl, rfl, rfl, w1⟩ := open_int Yba.underlying5 (hval 1 5 v1 rfl rfl) h1
  obtain ⟨a2, rfl, rfl, rfl, w2⟩ := open_int Yba.underlying21 (hval 2 21 v2 rfl rfl) h2
  obtain ⟨a3, len3, cap3, rfl⟩ := okWide_slice Yba.underlying22 (hval 3 22 v3 rfl rfl)
  have k3 := h3
  have lt3 : ∀ x ∈ p3, x.block < W.heap.size := by obtain ⟨m, hm⟩ := k3; exact DataW.trod_lt m _ _ _ hm
  obtain ⟨z3, w3⟩ : ∃ zs, IsRow .u8 W a3 len3 cap3 zs := by
    obtain ⟨fuel, hf⟩ := h3
    rcases open_ints Yba.underlying22 Yba.underlying5 (by kernel_rfl) hf with ⟨hcs, _⟩ | ⟨x, l, c, zs, hcs, _, hl, hm, hz, _, hcell, hwz⟩
    · simp [Value.cells] at hcs
      obtain ⟨rfl, rfl, rfl⟩ := hcs
      exact ⟨[], .inl ⟨rfl, rfl, rfl, rfl⟩⟩
    · simp [Value.cells] at hcs
      obtain ⟨rfl, rfl, rfl⟩ := hcs
      exact ⟨zs, .inr ⟨_, rfl, hl, hm, by simpa using hz, hcell, hwz⟩⟩
  obtain ⟨a4, len4, cap4, rfl⟩ := okWide_slice Yba.underlying22 (hval 4 22 v4 rfl rfl)
  have k4 := h4
  have lt4 : ∀ x ∈ p4, x.block < W.heap.size := by obtain ⟨m, hm⟩ := k4; exact DataW.trod_lt m _ _ _ hm
  obtain ⟨z4, w4⟩ : ∃ zs, IsRow .u8 W a4 len4 cap4 zs := by
    obtain ⟨fuel, hf⟩ := h4
    rcases open_ints Yba.underlying22 Yba.underlying5 (by kernel_rfl) hf with ⟨hcs, _⟩ | ⟨x, l, c, zs, hcs, _, hl, hm, hz, _, hcell, hwz⟩
    · simp [Value.cells] at hcs
      obtain ⟨rfl, rfl, rfl⟩ := hcs
      exact ⟨[], .inl ⟨rfl, rfl, rfl, rfl⟩⟩
    · simp [Value.cells] at hcs
      obtain ⟨rfl, rfl, rfl⟩ := hcs
      exact ⟨zs, .inr ⟨_, rfl, hl, hm, by simpa using hz, hcell, hwz⟩⟩
  have k5 := h5
  have lt5 : ∀ x ∈ p5, x.block < W.heap.size := by obtain ⟨m, hm⟩ := k5; exact DataW.trod_lt m _ _ _ hm
  obtain ⟨x0, x1, x2, rfl⟩ := open_arr (hval 5 23 v5 rfl rfl) h5
  obtain ⟨a6, len6, cap6, rfl⟩ := okWide_slice Yba.underlying24 (hval 6 24 v6 rfl rfl)
  have k6 := h6
  have lt6 : ∀ x ∈ p6, x.block < W.heap.size := by obtain ⟨m, hm⟩ := k6; exact DataW.trod_lt m _ _ _ hm
  obtain ⟨z6, w6⟩ : ∃ zs, IsRow .i64 W a6 len6 cap6 zs := by
    obtain ⟨fuel, hf⟩ := h6
    rcases open_ints Yba.underlying24 Yba.underlying2 (by kernel_rfl) hf with ⟨hcs, _⟩ | ⟨x, l, c, zs, hcs, _, hl, hm, hz, _, hcell, hwz⟩
    · simp [Value.cells] at hcs
      obtain ⟨rfl, rfl, rfl⟩ := hcs
      exact ⟨[], .inl ⟨rfl, rfl, rfl, rfl⟩⟩
    · simp [Value.cells] at hcs
      obtain ⟨rfl, rfl, rfl⟩ := hcs
      exact ⟨zs, .inr ⟨_, rfl, hl, hm, by simpa using hz, hcell, hwz⟩⟩
  clear hA0 hval0
  refine (walk a0 a1 a2 a3 len3 cap3 z3 a4 len4 cap4 z4 x0 x1 x2 a6 len6 cap6 z6 W w0 w1 w2 w3 w4 w6).mono fun e W' ⟨he, bel⟩ => ?_
  subst he
  exact ⟨_, rfl, _, _, _, [], _, [], hW', trodAll_mk1 (shut_bool Yba.underlying4 _), (trodAll_cons_mk (shut_int Yba.underlying5 w0) (trodAll_cons_mk (shut_int Yba.underlying5 w1) (trodAll_cons_mk (shut_int Yba.underlying21 w2) (trodAll_cons_mk (Below.trod laidOut (by kernel_rfl) (of_decide_eq_true (by kernel_rfl)) k3 bel lt3) (trodAll_cons_mk (Below.trod laidOut (by kernel_rfl) (of_decide_eq_true (by kernel_rfl)) k4 bel lt4) (trodAll_cons_mk (Below.trod laidOut (by kernel_rfl) (of_decide_eq_true (by kernel_rfl)) k5 bel lt5) (trodAll_cons_mk (Below.trod laidOut (by kernel_rfl) (of_decide_eq_true (by kernel_rfl)) k6 bel lt6) trodAll_mk0))))))), rfl, bel.frame _, fun h => by cases h⟩

theorem over : Rows.lawS0324ASelfRow.holds Yba.pinned (OpenSpec.ofChange Rows.lawS0324ASelfSpec) :=
  OpenClaim.holds_of_wide 4 Yba.f4 rfl rfl rfl rfl rfl rfl rfl ⟨rfl, rfl, rfl, rfl, rfl⟩ rfl rfl rfl rfl rfl (by kernel_rfl) Yba.func4 (by kernel_rfl)
    (of_decide_eq_true (by kernel_rfl)) (by unfold Func.isWrapper; first | (rw [if_pos (by decide +kernel)]; kernel_rfl) | (rw [if_neg (by decide +kernel)]; exact ⟨rfl, rfl⟩))
    (fun os started H enc _ => lifted os started H enc)

/-- ████ THE STATEMENT ████ -/
theorem proved : Rows.LawS0324ASelfSaid := over
end Go.Proofs.Ybulkfrm.lawS0324ASelf

/-
  The contracts of zzs0324ceq (11) at the same four bytes, and of Hashed.Range (10).
-/
import Derived.Test.YbulkfrmKeys
namespace Go.Proofs.Ybulkfrm
open Go.ChangeShapes Go.WideShapes Go.ChangeAt Go.RowKit
set_option linter.unusedVariables false
set_option maxHeartbeats 800000 in
/-- zzs0324ceq at two slices of the same four bytes. -/
theorem eq_any (g1 c1 g2 c2 : Nat) (v : Int) (w : World) (h1 : Be4 w g1 v) (h2 : Be4 w g2 v) :
    Calls Yba.prog 11 #[.slice (some ⟨g1, 0, none⟩) 4 c1, .slice (some ⟨g2, 0, none⟩) 4 c2] w fun e w' => e = .returned (.bool true) ∧ ∃ n, w' = w.drewN n := by
  obtain ⟨x0, x1, x2, x3⟩ := h1
  obtain ⟨y0, y1, y2, y3⟩ := h2
  go_enter Yba.func11, Yba.ntmps11
  go_wp2
  refine wp_loop_rounds 5 ?_
  rw [rounds_succ]
  go_wp2
  go_quiet (fail)
  go_wp2
  rw [rounds_succ]
  go_wp2
  go_quiet (fail)
  go_wp2
  rw [rounds_succ]
  go_wp2
  go_quiet (fail)
  go_wp2
  rw [rounds_succ]
  go_wp2
  go_quiet (fail)
  go_wp2
  rw [rounds_succ]
  go_wp2
  go_ret
  exact ⟨rfl, _, rfl⟩

theorem second_of {w w2 : World} {O1 O3 : Obj} {C : Array Value} {t : TypeId} (hb : Below (((w.alloc O1).alloc (.cells C t)).alloc O3).heap.size (((w.alloc O1).alloc (.cells C t)).alloc O3) w2) :
    (∀ o, w2.cell? ⟨w.heap.size + 1, o, none⟩ = C[o]?) ∧ (∀ o, w2.frozen? ⟨w.heap.size + 1, o, none⟩ = false) ∧ w.heap.size + 3 ≤ w2.heap.size ∧ Below w.heap.size w w2 := by
  have e : (((w.alloc O1).alloc (.cells C t)).alloc O3).heap.size = w.heap.size + 3 := by simp
  rw [e] at hb
  refine ⟨fun o => ?_, fun o => ?_, by have := hb.size; simp at this; omega, ?_⟩
  · have h : w.heap.size + 1 < w.heap.size + 3 := by omega
    rw [hb.cell (p := ⟨w.heap.size + 1, o, none⟩) h, World.cell?_alloc_past _ _ _ (by simp), World.cell?_alloc_at _ _ _ _ (by simp)]
  · have h : w.heap.size + 1 < w.heap.size + 3 := by omega
    rw [hb.frozen (p := ⟨w.heap.size + 1, o, none⟩) h, World.frozen?_alloc_past _ _ _ (by simp), World.frozen?_alloc_at _ _ _ _ (by simp)]
  · exact ((((Below.refl _ w).alloc (Nat.le_refl _) _).alloc (by simp) _).alloc (by simp; omega) _).trans (hb.mono (by omega))
theorem first_of {w w2 : World} {C : Array Value} {t : TypeId} (hb : Below (w.alloc (.cells C t)).heap.size (w.alloc (.cells C t)) w2) :
    (∀ o, w2.cell? ⟨w.heap.size, o, none⟩ = C[o]?) ∧ (∀ o, w2.frozen? ⟨w.heap.size, o, none⟩ = false) ∧ w.heap.size + 1 ≤ w2.heap.size ∧ Below w.heap.size w w2 := by
  have e : (w.alloc (.cells C t)).heap.size = w.heap.size + 1 := by simp
  rw [e] at hb
  refine ⟨fun o => ?_, fun o => ?_, by have := hb.size; simp at this; omega, ?_⟩
  · have h : w.heap.size < w.heap.size + 1 := by omega
    rw [hb.cell (p := ⟨w.heap.size, o, none⟩) h, World.cell?_alloc_at _ _ _ _ rfl]
  · have h : w.heap.size < w.heap.size + 1 := by omega
    rw [hb.frozen (p := ⟨w.heap.size, o, none⟩) h, World.frozen?_alloc_at _ _ _ _ rfl]
  · exact ((Below.refl _ w).alloc (Nat.le_refl _) _).trans (hb.mono (by omega))

theorem Be4.put {w : World} {g b o : Nat} {v : Int} {x : Value} (h : Be4 w g v) (hne : g ≠ b) : Be4 (w.setCell ⟨b, o, none⟩ x) g v := by
  have hk : ∀ i, (w.setCell ⟨b, o, none⟩ x).cell? ⟨g, i, none⟩ = w.cell? ⟨g, i, none⟩ := fun i =>
    World.cell?_setCell_other _ _ _ _ (fun e => hne (Addr.mk.inj e).1.symm)
  exact ⟨(hk 0).trans h.b0, (hk 1).trans h.b1, (hk 2).trans h.b2, (hk 3).trans h.b3⟩
theorem Be4.apart {w : World} {g b : Nat} {v n : Int} (h : Be4 w g v) (hb : w.cell? ⟨b, 0, none⟩ = some (.int .u64 n)) : g ≠ b := by
  intro e; subst e
  have h0 := h.b0
  rw [hb] at h0
  simp at h0

/-- The end of Hashed.Range at a partition that is not the last: X its start, Y its end. -/
def RangePost (p X Y : Int) (w : World) (e : Ending) (w' : World) : Prop :=
  ∃ g1 c1 g2 c2, e = .returned (.agg #[.int .u64 (p + 1), .slice (some ⟨g1, 0, none⟩) 4 c1, .slice (some ⟨g2, 0, none⟩) 4 c2, .string ⟨#[109, 100, 53]⟩]) ∧ Be4 w' g1 X ∧ Be4 w' g2 Y ∧ Below w.heap.size w w'
/-- .. and at the last one. -/
def RangeLast (p X : Int) (w : World) (e : Ending) (w' : World) : Prop :=
  ∃ g1 c1, e = .returned (.agg #[.int .u64 (p + 1), .slice (some ⟨g1, 0, none⟩) 4 c1, .slice none 0 0, .string ⟨#[109, 100, 53]⟩]) ∧ Be4 w' g1 X ∧ Below w.heap.size w w'

set_option maxHeartbeats 800000 in
theorem range_any (pw p X T : Int) (w : World) (h0 : 0 ≤ pw) (h1 : pw ≤ 32) (h2 : 0 ≤ p) (h3 : p < 4294967296) (hT : 2 ^ (32 - pw).toNat = T) (hX : p * T = X) (x0 : 0 ≤ X) (t0 : 1 ≤ T) (xt : X + T < 4294967296) :
    Calls Yba.prog 10 #[.agg #[.int .i64 pw], .int .u32 p] w (RangePost p X (X + T) w) := by
  have HT : Hid (2 ^ (32 - pw).toNat = T) := hT
  have HX : Hid (p * T = X) := hX
  clear hT hX
  have hm : (X + T) % 4294967296 = X + T := by omega
  have hd : decide (X + T < 4294967296) = true := by simpa using xt
  go_enter Yba.func10, Yba.ntmps10
  go_wp2_with fail
  refine (bounds_any pw p X T _ h0 h1 h2 h3 HT.out HX.out x0 t0 (by omega)).mono ?_
  rintro e w1 ⟨rfl, rfl⟩
  go_wp2_with fail
  refine (app_any X _ x0 (by omega)).mono ?_
  rintro e w2 ⟨g1, c1, rfl, hbe, hbel⟩
  obtain ⟨hc, hf, hz, hb2⟩ := second_of hbel
  clear hm hd hbel
  have HE := (show Hid _ from hbe)
  have HB := (show Hid _ from hb2)
  have HC := (show Hid _ from hc)
  have HF := (show Hid _ from hf)
  clear hbe hb2 hc hf
  go_wp2_with fail
  refine (app_any (X + T) _ (by omega) (by omega)).mono ?_
  rintro e w3 ⟨g2, c2, rfl, hbe2, hbel2⟩
  obtain ⟨hc2, hf2, hz2, hb3⟩ := first_of hbel2
  have hlt : w.heap.size + 1 < w2.heap.size := by omega
  have r0 : w3.cell? ⟨w.heap.size + 1, 0, none⟩ = some (.int .u64 0) := (hb3.cell (p := ⟨w.heap.size + 1, 0, none⟩) hlt).trans (HC.out 0)
  have r1 : w3.cell? ⟨w.heap.size + 1, 1, none⟩ = some (.slice none 0 0) := (hb3.cell (p := ⟨w.heap.size + 1, 1, none⟩) hlt).trans (HC.out 1)
  have r2 : w3.cell? ⟨w.heap.size + 1, 2, none⟩ = some (.slice none 0 0) := (hb3.cell (p := ⟨w.heap.size + 1, 2, none⟩) hlt).trans (HC.out 2)
  have r3 : w3.cell? ⟨w.heap.size + 1, 3, none⟩ = some (.string ⟨#[]⟩) := (hb3.cell (p := ⟨w.heap.size + 1, 3, none⟩) hlt).trans (HC.out 3)
  have rf : ∀ o, w3.frozen? ⟨w.heap.size + 1, o, none⟩ = false := fun o => (hb3.frozen (p := ⟨w.heap.size + 1, o, none⟩) hlt).trans (HF.out o)
  have q0 : w3.cell? ⟨w2.heap.size, 0, none⟩ = some (.int .u64 (p + 1)) := hc2 0
  have q1 : w3.cell? ⟨w2.heap.size, 1, none⟩ = some (.slice (some ⟨g1, 0, none⟩) 4 c1) := hc2 1
  have q2 : w3.cell? ⟨w2.heap.size, 2, none⟩ = some (.slice none 0 0) := hc2 2
  have q3 : w3.cell? ⟨w2.heap.size, 3, none⟩ = some (.string ⟨#[109, 100, 53]⟩) := hc2 3
  have n1 : ¬ w2.heap.size = w.heap.size + 1 := by omega
  have n2 : ¬ w.heap.size + 1 = w2.heap.size := by omega
  have a1 := HE.out.later hb3
  have HE1 : Hid (Be4 w3 g1 X ∧ g1 ≠ w2.heap.size ∧ g1 ≠ w.heap.size + 1) := ⟨a1, a1.apart q0, a1.apart r0⟩
  have HE2 : Hid (Be4 w3 g2 (X + T) ∧ g2 ≠ w2.heap.size ∧ g2 ≠ w.heap.size + 1) := ⟨hbe2, hbe2.apart q0, hbe2.apart r0⟩
  have HB3 : Hid (Below w.heap.size w w3) := HB.out.trans (hb3.mono (by omega))
  clear hbe2 hbel2 hb3 hc2 a1 HE HB HC HF
  go_wp2
  obtain ⟨u1, v1, z1⟩ := HE1.out
  obtain ⟨u2, v2, z2⟩ := HE2.out
  refine bodyPost_ret (v := .agg #[.int .u64 (p + 1), .slice (some ⟨g1, 0, none⟩) 4 c1, .slice (some ⟨g2, 0, none⟩) 4 c2, .string ⟨#[109, 100, 53]⟩]) (by simp [results, Yba.results10, go_sem, r0, r1, r2, r3]) rfl ?_
  exact ⟨g1, c1, g2, c2, rfl, ((((u1.put v1).put z1).put z1).put z1).put z1, ((((u2.put v2).put z2).put z2).put z2).put z2,
    ((((HB3.out.setCell (show w.heap.size ≤ w2.heap.size by omega) _).setCell (Nat.le_succ _) _).setCell (Nat.le_succ _) _).setCell (Nat.le_succ _) _).setCell (Nat.le_succ _) _⟩

set_option maxHeartbeats 800000 in
/-- Hashed.Range at the last partition. -/
theorem range_last (pw p X T : Int) (w : World) (h0 : 0 ≤ pw) (h1 : pw ≤ 32) (h2 : 0 ≤ p) (h3 : p < 4294967296) (hT : 2 ^ (32 - pw).toNat = T) (hX : p * T = X) (x0 : 0 ≤ X) (t0 : 1 ≤ T) (xt : X + T = 4294967296) :
    Calls Yba.prog 10 #[.agg #[.int .i64 pw], .int .u32 p] w (RangeLast p X w) := by
  have HT : Hid (2 ^ (32 - pw).toNat = T) := hT
  have HX : Hid (p * T = X) := hX
  have xt' : X + T ≤ 4294967296 := by omega
  have hd : decide (X + T < 4294967296) = false := by simp; omega
  have hx1 : X < 4294967296 := by omega
  clear hT hX xt
  go_enter Yba.func10, Yba.ntmps10
  go_wp2_with fail
  refine (bounds_any pw p X T _ h0 h1 h2 h3 HT.out HX.out x0 t0 xt').mono ?_
  rintro e w1 ⟨rfl, rfl⟩
  go_wp2_with fail
  refine (app_any X _ x0 hx1).mono ?_
  rintro e w2 ⟨g1, c1, rfl, hbe, hbel⟩
  obtain ⟨hc, hf, hz, hb2⟩ := second_of hbel
  have r0 : w2.cell? ⟨w.heap.size + 1, 0, none⟩ = some (.int .u64 0) := hc 0
  have r1 : w2.cell? ⟨w.heap.size + 1, 1, none⟩ = some (.slice none 0 0) := hc 1
  have r2 : w2.cell? ⟨w.heap.size + 1, 2, none⟩ = some (.slice none 0 0) := hc 2
  have r3 : w2.cell? ⟨w.heap.size + 1, 3, none⟩ = some (.string ⟨#[]⟩) := hc 3
  have n1 : ¬ w2.heap.size = w.heap.size + 1 := by omega
  have n2 : ¬ w.heap.size + 1 = w2.heap.size := by omega
  have hlt : w.heap.size + 1 < w2.heap.size := by omega
  have HE : Hid (Be4 w2 g1 X ∧ g1 ≠ w.heap.size + 1) := ⟨hbe, hbe.apart r0⟩
  have HB := (show Hid _ from hb2)
  clear hbe hb2 hc hd hbel
  go_wp2
  obtain ⟨u1, z1⟩ := HE.out
  refine bodyPost_ret (v := .agg #[.int .u64 (p + 1), .slice (some ⟨g1, 0, none⟩) 4 c1, .slice none 0 0, .string ⟨#[109, 100, 53]⟩]) (by simp [results, Yba.results10, go_sem, r0, r1, r2, r3, hlt]) rfl ?_
  refine ⟨g1, c1, rfl, Be4.later ((((u1.put z1).put z1).put z1).put z1) ((Below.refl _ _).alloc (Nat.le_refl _) _), ?_⟩
  exact ((((HB.out.setCell (Nat.le_succ _) _).setCell (Nat.le_succ _) _).setCell (Nat.le_succ _) _).setCell (Nat.le_succ _) _).alloc (by simp; omega) _
end Go.Proofs.Ybulkfrm

/-
  The contract of the method step (function 9) at what zzs0324abuild has laid.
-/
import Derived.Test.YbulkfrmPlace
import Derived.Deep.QuietTactic
import Derived.BigQuiet
namespace Go.Proofs.Ybulkfrm
open Go.ChangeShapes Go.WideShapes Go.ChangeAt Go.RowKit
set_option linter.unusedVariables false
set_option maxHeartbeats 400000 in
theorem step_any (A b c n M : Nat) (pl t vf vt xf xt yf yt : Int) (w : World) (h0 : 0 ≤ pl) (h1 : pl ≤ 7) (h2 : 0 ≤ t) (h3 : t ≤ 7) (h4 : 2 + pl < (M : Int)) (h5 : 2 + t < (M : Int)) (h6 : (M : Int) ≤ 10)
    (c1 : w.cell? ⟨b, 1, none⟩ = some (.int .i32 pl)) (cf : w.cell? ⟨b, (2 + pl).toNat, none⟩ = some (.int .i32 vf)) (ct : w.cell? ⟨b, (2 + t).toNat, none⟩ = some (.int .i32 vt))
    (f0 : 0 ≤ vf) (f1 : vf < 4 * n) (t0 : 0 ≤ vt) (t1 : vt < 4 * n) (hn : n ≤ 1025) (f2 : vf % 4 < 3) (t2 : vt % 4 < 3)
    (qf : w.cell? ⟨A, 2 + (vf % 4).toNat, none⟩ = some (.int .i64 xf)) (qt : w.cell? ⟨A, 2 + (vt % 4).toNat, none⟩ = some (.int .i64 xt))
    (hs : w.cell? ⟨A, 10, none⟩ = some (.slice (some ⟨c, 0, none⟩) n n))
    (of : w.cell? ⟨c, (vf / 4).toNat, none⟩ = some (.int .i64 yf)) (ot : w.cell? ⟨c, (vt / 4).toNat, none⟩ = some (.int .i64 yt)) :
    Calls Yba.prog 9 #[.pointer (some ⟨A, 0, none⟩), .slice (some ⟨b, 0, none⟩) M M, .int .i32 t] w fun e w' => e = .returned (.tuple #[.int .i32 (vt / 4), .int .i64 (wrap64 (wrap64 (wrap64 (xt - xf) + yf) - yt))]) ∧ ∃ n, w' = w.drewN n := by
  have h7 : (1 : Int) < (M : Int) := by omega
  have l1 := i32_low vf (by omega) (by omega)
  have l2 := i32_low vt (by omega) (by omega)
  have g1 : 0 ≤ vf % 4 := by omega
  have g2 : 0 ≤ vt % 4 := by omega
  have g3 : 0 ≤ vf / 4 := by omega
  have g4 : 0 ≤ vt / 4 := by omega
  have g5 : vf / 4 < n := by omega
  have g6 : vt / 4 < n := by omega
  go_enter Yba.func9, Yba.ntmps9
  go_wp2
  go_quiet (fail)
  go_wp2
  go_quiet (fail)
  go_wp2
  go_ret2
  exact ⟨rfl, _, World.drewN_drewN _ _ _⟩

/-- Of three prices the one at k. -/
def priceOf (p0 p1 p2 : Int) (k : Int) : Int := if k = 0 then p0 else if k = 1 then p1 else p2
theorem Built.price {w : World} {A b c n : Nat} {R pl p0 p1 p2 : Int} {pot val : Nat → Int} (h : Built w A b c n R pl p0 p1 p2 pot val) (k : Int) (h0 : 0 ≤ k) (h1 : k < 3) :
    w.cell? ⟨A, 2 + k.toNat, none⟩ = some (.int .i64 (priceOf p0 p1 p2 k)) := by
  rcases (show k = 0 ∨ k = 1 ∨ k = 2 by omega) with rfl | rfl | rfl
  · exact h.price0
  · exact h.price1
  · exact h.price2

/-- The method step at what zzs0324abuild has laid. -/
theorem step_built (A b c n M : Nat) (R pl t p0 p1 p2 : Int) (pot nod knd : Nat → Int) (w : World) (h0 : 0 ≤ pl) (h1 : pl < R) (h2 : 0 ≤ t) (h3 : t < R) (hR : R ≤ 8) (h4 : 2 + R ≤ (M : Int)) (h6 : (M : Int) ≤ 10) (hn : n ≤ 1025)
    (hb : Built w A b c n R pl p0 p1 p2 pot (fun i => nod i * 4 + knd i)) (hnod : ∀ i, 0 ≤ nod i ∧ nod i < n) (hknd : ∀ i, 0 ≤ knd i ∧ knd i < 3) :
    Calls Yba.prog 9 #[.pointer (some ⟨A, 0, none⟩), .slice (some ⟨b, 0, none⟩) M M, .int .i32 t] w fun e w' => e = .returned (.tuple #[.int .i32 (nod t.toNat),
      .int .i64 (wrap64 (wrap64 (wrap64 (priceOf p0 p1 p2 (knd t.toNat) - priceOf p0 p1 p2 (knd pl.toNat)) + pot (nod pl.toNat).toNat) - pot (nod t.toNat).toNat))]) ∧ ∃ n, w' = w.drewN n := by
  have nf := hnod pl.toNat
  have nt := hnod t.toNat
  have kf := hknd pl.toNat
  have kt := hknd t.toNat
  have vf := hb.vals pl.toNat (by omega)
  have vt := hb.vals t.toNat (by omega)
  have ef : 2 + pl.toNat = (2 + pl).toNat := by omega
  have et : 2 + t.toNat = (2 + t).toNat := by omega
  rw [ef] at vf
  rw [et] at vt
  have m1 : (nod pl.toNat * 4 + knd pl.toNat) % 4 = knd pl.toNat := by omega
  have m2 : (nod t.toNat * 4 + knd t.toNat) % 4 = knd t.toNat := by omega
  have d1 : (nod pl.toNat * 4 + knd pl.toNat) / 4 = nod pl.toNat := by omega
  have d2 : (nod t.toNat * 4 + knd t.toNat) / 4 = nod t.toNat := by omega
  have q1 := hb.price (knd pl.toNat) kf.1 kf.2
  have q2 := hb.price (knd t.toNat) kt.1 kt.2
  have o1 := hb.pots (nod pl.toNat).toNat (by omega)
  have o2 := hb.pots (nod t.toNat).toNat (by omega)
  have h := step_any A b c n M pl t _ _ _ _ _ _ w h0 (by omega) h2 (by omega) (by omega) (by omega) h6 hb.place vf vt (by omega) (by omega) (by omega) (by omega) hn (by omega) (by omega)
    (by rw [m1]; exact q1) (by rw [m2]; exact q2) hb.potential (by rw [d1]; exact o1) (by rw [d2]; exact o2)
  rw [d2] at h
  exact h
end Go.Proofs.Ybulkfrm

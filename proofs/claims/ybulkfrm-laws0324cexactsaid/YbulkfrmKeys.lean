/-
  The contracts of Hashed.Bounds (13), zzs0324cbe (12) and AppendUint32 at a nil slice (14).
-/
import Derived.Test.YbulkfrmRows
import Derived.WalkKit
import Derived.WalkSpells
import Derived.ProofKit
import Derived.Below
import Derived.Deep.QuietTactic
import Derived.BigQuiet
import Derived.RegionTactic
namespace Go.Proofs.Ybulkfrm
open Go.ChangeShapes Go.WideShapes Go.ChangeAt Go.RowKit
set_option linter.unusedVariables false

theorem u64_small (n : Int) (h0 : 0 ≤ n) (h1 : n < 18446744073709551616) : IntKind.u64.wrap n = n := by
  simp [IntKind.wrap, IntKind.bits, IntKind.signed]; omega
theorem ret_three {a b c d : Int} {x y : Bool} (h1 : a = b) (h2 : c = d) (h3 : x = y) : Ending.returned (.tuple #[.int .u32 a, .int .u32 c, .bool x]) = .returned (.tuple #[.int .u32 b, .int .u32 d, .bool y]) := by rw [h1, h2, h3]

set_option maxHeartbeats 400000 in
/-- Hashed.Bounds: X the start, T the width of a partition. -/
theorem bounds_any (pw p X T : Int) (w : World) (h0 : 0 ≤ pw) (h1 : pw ≤ 32) (h2 : 0 ≤ p) (h3 : p < 4294967296) (hT : 2 ^ (32 - pw).toNat = T) (hX : p * T = X) (x0 : 0 ≤ X) (t0 : 1 ≤ T) (xt : X + T ≤ 4294967296) :
    Calls Yba.prog 13 #[.agg #[.int .i64 pw], .int .u32 p] w fun e w' => e = .returned (.tuple #[.int .u32 X, .int .u32 ((X + T) % 4294967296), .bool (decide (X + T < 4294967296))]) ∧ w' = w.alloc (.cells #[.int .i64 pw] 44) := by
  have HX : Hid (p * T = X) := hX
  have HT : Hid (2 ^ (32 - pw).toNat = T) := hT
  have eX : IntKind.u64.wrap (p * 2 ^ (32 - pw).toNat) = X := by rw [hT, hX]; exact u64_small X x0 (by omega)
  have eT : IntKind.u64.wrap (2 ^ (32 - pw).toNat) = T := by rw [hT]; exact u64_small T (by omega) (by omega)
  have eS : IntKind.u64.wrap (IntKind.u64.wrap (p * 2 ^ (32 - pw).toNat) + IntKind.u64.wrap (2 ^ (32 - pw).toNat)) = X + T := by rw [eX, eT]; exact u64_small _ (by omega) (by omega)
  have EX : Hid (IntKind.u64.wrap (p * 2 ^ (32 - pw).toNat) = X) := eX
  have ES : Hid (IntKind.u64.wrap (IntKind.u64.wrap (p * 2 ^ (32 - pw).toNat) + IntKind.u64.wrap (2 ^ (32 - pw).toNat)) = X + T) := eS
  clear hX hT eX eT eS
  go_enter Yba.func13, Yba.ntmps13
  go_wp2
  go_ret3
  exact ⟨ret_three (by rw [EX.out]; omega) (by rw [ES.out]) (by rw [ES.out]), rfl⟩

/-- The four bytes of v, the greatest first, lie at the head of block g. -/
structure Be4 (w : World) (g : Nat) (v : Int) : Prop where
  b0 : w.cell? ⟨g, 0, none⟩ = some (.int .u8 (v / 16777216))
  b1 : w.cell? ⟨g, 1, none⟩ = some (.int .u8 (v / 65536 % 256))
  b2 : w.cell? ⟨g, 2, none⟩ = some (.int .u8 (v / 256 % 256))
  b3 : w.cell? ⟨g, 3, none⟩ = some (.int .u8 (v % 256))
theorem Be4.later {w w' : World} {g : Nat} {v : Int} (h : Be4 w g v) (hb : Below w.heap.size w w') : Be4 w' g v :=
  ⟨cell_later hb h.b0, cell_later hb h.b1, cell_later hb h.b2, cell_later hb h.b3⟩

set_option maxHeartbeats 400000 in
/-- zzs0324cbe. -/
theorem be_any (v : Int) (w : World) (h2 : 0 ≤ v) (h3 : v < 4294967296) :
    Calls Yba.prog 12 #[.int .u32 v] w fun e w' => e = .returned (.slice (some ⟨w.heap.size, 0, none⟩) 4 4) ∧
      w' = w.alloc (.cells #[.int .u8 (v / 16777216), .int .u8 (v / 65536 % 256), .int .u8 (v / 256 % 256), .int .u8 (v % 256)] 5) := by
  go_enter Yba.func12, Yba.ntmps12
  go_wp2
  go_ret
  exact ⟨rfl, rfl⟩

theorem info5 : (Yba.prog.info? 5).map (fun i => (i.zero, i.size, i.bytes)) = some (some (.int .u8 0), 1, 1) := by kernel_rfl

/-- The end of AppendUint32 at a nil slice. -/
def AppPost (v : Int) (w : World) (e : Ending) (w' : World) : Prop :=
  ∃ g c, e = .returned (.slice (some ⟨g, 0, none⟩) 4 c) ∧ Be4 w' g v ∧ Below w.heap.size w w'
theorem appPost_mk {v : Int} {w w' : World} {x : Value} (h : w'.ownsRow w.heap.size 5 1 x 4 [.int .u8 (v / 16777216), .int .u8 (v / 65536 % 256), .int .u8 (v / 256 % 256), .int .u8 (v % 256)]) (hb : Below w.heap.size w w') :
    AppPost v w (.returned x) w' := by
  obtain ⟨hl, ⟨_, h0⟩ | ⟨g, cap, cur, rfl, hg, hh, hn, hm, hsz, ht⟩⟩ := h
  · omega
  · have hc : ∀ i (hi : i < 4), w'.cell? ⟨g, i, none⟩ = ([.int .u8 (v / 16777216), .int .u8 (v / 65536 % 256), .int .u8 (v / 256 % 256), .int .u8 (v % 256)] : List Value)[i]? := fun i hi => by
      rw [← ht]
      simp only [World.cell?, hh]
      simp [hi]
    exact ⟨g, cap, rfl, ⟨hc 0 (by omega), hc 1 (by omega), hc 2 (by omega), hc 3 (by omega)⟩, hb⟩
set_option maxHeartbeats 400000 in
/-- (binary.bigEndian).AppendUint32 at a nil slice. -/
theorem app_any (v : Int) (w : World) (h2 : 0 ≤ v) (h3 : v < 4294967296) :
    Calls Yba.prog 14 #[.agg #[], .slice none 0 0, .int .u32 v] w (AppPost v w) := by
  obtain ⟨i0, hi, hz0, hz1, hz2⟩ := info_parts info5
  have hown := World.ownsRow_nil w w.heap.size 5 1
  go_enter Yba.func14, Yba.ntmps14
  go_wp2_with (at_builtin; refine wpList_append_own _ rfl _ _ 22 rfl w.heap.size 5 i0 (.int .u8 0) 1 1 Yba.underlying22 hi hz0 hz1 hz2 rfl (by decide) _ _ _ rfl ((hown.alloc _).alloc _) _ 4 4 [.int .u8 (v / 16777216), .int .u8 (v / 65536 % 256), .int .u8 (v / 256 % 256), .int .u8 (v % 256)] rfl rfl ?c1 ?c2 ?c3 ?c4 ?c5 ?_)
  case c1 =>
    intro j u hj
    match j, hj with
    | 0, hj => simp at hj; subst hj; simp [Addr.add]
    | 1, hj => simp at hj; subst hj; simp [Addr.add]
    | 2, hj => simp at hj; subst hj; simp [Addr.add]
    | 3, hj => simp at hj; subst hj; simp [Addr.add]
  case c2 => intro u hu; simp at hu; rcases hu with rfl | rfl | rfl | rfl <;> rfl
  case c3 => unfold maxLen; omega
  case c4 => omega
  case c5 => simp; omega
  intro v' w2 hown' hgrow _
  go_wp2
  go_ret
  exact appPost_mk hown' ((((Below.refl _ w).alloc (Nat.le_refl _) _).alloc (by simp) _).grown hgrow (by simp; omega) (fun k hk => by simp [Value.ownBlock] at hk))
end Go.Proofs.Ybulkfrm

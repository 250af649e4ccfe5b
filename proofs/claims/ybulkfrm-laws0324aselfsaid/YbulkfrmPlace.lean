/-
  What the two laws on placement share: the contracts of zzs0324aslot (function 8) and zzs0324abuild (function 7).
-/
import Derived.Test.YbulkfrmRows
import Derived.WalkKit
import Derived.WalkSpells
import Derived.ProofKit
import Derived.ChangeOld
import Derived.Below
import Derived.Laws.CopyOwn
import Derived.Deep.OwnRows
import Derived.Laws.BitsAllLaws
import Derived.Laws.DeepBits32
namespace Go.Proofs.Ybulkfrm
open Go.ChangeShapes Go.WideShapes Go.ChangeAt Go.RowKit
set_option linter.unusedVariables false
/-- What the walks are told of a slice of bytes: element i is the number 'f i', at a known cell. -/
def Bytes (w : World) (a : Option Addr) (len : Nat) (f : Nat → Int) : Prop :=
  len ≤ 9223372036854775807 ∧ ∀ i, i < len → 0 ≤ f i ∧ f i ≤ 255 ∧ ∃ b off, a = some ⟨b, off, none⟩ ∧ w.cell? ⟨b, off + i, none⟩ = some (.int .u8 (f i))
def nodeOf (f : Nat → Int) (ln : Nat) (n j : Int) : Int := if 0 < ln then f (j % ln).toNat % n else j % n
def kindOf (g : Nat → Int) (lk : Nat) (j : Int) : Int := if 0 < lk then g (j % lk).toNat % 3 else 0
theorem nodeOf_pos {f : Nat → Int} {ln : Nat} {n j : Int} (h : 0 < ln) : nodeOf f ln n j = f (j % ln).toNat % n := if_pos h
theorem nodeOf_zero {f : Nat → Int} {n j : Int} : nodeOf f 0 n j = j % n := rfl
theorem kindOf_pos {g : Nat → Int} {lk : Nat} {j : Int} (h : 0 < lk) : kindOf g lk j = g (j % lk).toNat % 3 := if_pos h
theorem kindOf_zero {g : Nat → Int} {j : Int} : kindOf g 0 j = 0 := rfl
theorem nodeOf_bd (f : Nat → Int) (ln : Nat) (n j : Int) (hn : 1 ≤ n) : 0 ≤ nodeOf f ln n j ∧ nodeOf f ln n j < n := by
  unfold nodeOf; split
  · exact ⟨Int.emod_nonneg _ (by omega), Int.emod_lt_of_pos _ (by omega)⟩
  · exact ⟨Int.emod_nonneg _ (by omega), Int.emod_lt_of_pos _ (by omega)⟩
theorem kindOf_bd (g : Nat → Int) (lk : Nat) (j : Int) : 0 ≤ kindOf g lk j ∧ kindOf g lk j < 3 := by
  unfold kindOf; split <;> omega
theorem ret_two {a b c d : Int} (h1 : a = b) (h2 : c = d) : Ending.returned (.tuple #[.int .i64 a, .int .i64 c]) = .returned (.tuple #[.int .i64 b, .int .i64 d]) := by rw [h1, h2]

theorem Bytes.at {w : World} {a : Option Addr} {len : Nat} {f : Nat → Int} (h : Bytes w a len f) {j : Int} (hj : 0 ≤ j) (hl : 0 < len) :
    ∃ b off, a = some ⟨b, off, none⟩ ∧ w.cell? ⟨b, off + (j % (len : Int)).toNat, none⟩ = some (.int .u8 (f (j % (len : Int)).toNat)) ∧ 0 ≤ f (j % (len : Int)).toNat ∧ f (j % (len : Int)).toNat ≤ 255 ∧
      0 ≤ j % (len : Int) ∧ j % (len : Int) < len := by
  have h1 : 0 ≤ j % (len : Int) := Int.emod_nonneg _ (by omega)
  have h2 : j % (len : Int) < len := Int.emod_lt_of_pos _ (by omega)
  obtain ⟨p, q, b, off, ha, hc⟩ := h.2 (j % (len : Int)).toNat (by omega)
  exact ⟨b, off, ha, hc, p, q, h1, h2⟩

set_option maxHeartbeats 400000 in
/-- zzs0324aslot: the node and the kind of replica j. -/
theorem slot_any (j n : Int) (an ak : Option Addr) (ln cn lk ck : Nat) (f g : Nat → Int) (w : World) (hj : 0 ≤ j) (hj' : j ≤ 8) (hn : 1 ≤ n) (hn' : n ≤ 1025)
    (hf : Bytes w an ln f) (hg : Bytes w ak lk g) :
    Calls Yba.prog 8 #[.int .i64 j, .int .i64 n, .slice an ln cn, .slice ak lk ck] w fun e w' => e = .returned (.tuple #[.int .i64 (nodeOf f ln n j), .int .i64 (kindOf g lk j)]) ∧ w' = w := by
  have mf := hf.1
  have mg := hg.1
  by_cases hln : 0 < ln
  · obtain ⟨b, off, rfl, hc, hb1, hb2, hm1, hm2⟩ := hf.at hj hln
    by_cases hlk : 0 < lk
    · obtain ⟨b', off', rfl, hc', hb1', hb2', hm1', hm2'⟩ := hg.at hj hlk
      clear hf hg
      go_enter Yba.func8, Yba.ntmps8
      go_wp2
      go_ret2
      exact ⟨ret_two (nodeOf_pos hln).symm (kindOf_pos hlk).symm, rfl⟩
    · obtain rfl : lk = 0 := by omega
      clear hf hg
      go_enter Yba.func8, Yba.ntmps8
      go_wp2
      go_ret2
      exact ⟨ret_two (nodeOf_pos hln).symm kindOf_zero.symm, rfl⟩
  · obtain rfl : ln = 0 := by omega
    by_cases hlk : 0 < lk
    · obtain ⟨b', off', rfl, hc', hb1', hb2', hm1', hm2'⟩ := hg.at hj hlk
      clear hf hg
      go_enter Yba.func8, Yba.ntmps8
      go_wp2
      go_ret2
      exact ⟨ret_two nodeOf_zero.symm (kindOf_pos hlk).symm, rfl⟩
    · obtain rfl : lk = 0 := by omega
      clear hf hg
      go_enter Yba.func8, Yba.ntmps8
      go_wp2
      go_ret2
      exact ⟨ret_two nodeOf_zero.symm kindOf_zero.symm, rfl⟩
theorem info2 : (Yba.prog.info? 2).map (fun i => (i.zero, i.size, i.bytes)) = some (some (.int .i64 0), 1, 8) := by kernel_rfl
theorem size2 : (Yba.prog.info? 2).map (·.size) = some 1 := by kernel_rfl
theorem info21 : (Yba.prog.info? 21).map (fun i => (i.zero, i.size, i.bytes)) = some (some (.int .i32 0), 1, 4) := by kernel_rfl
theorem mk24 (lp : Nat) (h : lp ≤ 1024) (w : World) : (Instr.makeSlice 24 (.int .i64 ((lp : Int) + 1)) (.int .i64 ((lp : Int) + 1))).run Yba.prog w = .ok (.slice (some ⟨w.heap.size, 0, none⟩) (lp + 1) (lp + 1)) (w.alloc (.cells (madeCells #[.int .i64 0] (lp + 1)) 2)) := by
  have h := run_make_row' (P := Yba.prog) 24 2 (.int .i64 0) 8 Yba.underlying24 info2 rfl .i64 .i64 (lp + 1) (by omega) (by omega) w
  have e : ((lp + 1 : Nat) : Int) = (lp : Int) + 1 := by omega
  rwa [e] at h
theorem made_at (z : Value) (n i : Nat) (h : i < n) : (madeCells #[z] n)[i]? = some z := by
  have e : i % 1 = 0 := by omega
  simp [madeCells, h, e]
/-- 'make([]int32, m)': the new row, under a letter of its own. -/
theorem mk26 (m : Int) (M : Nat) (hm : m = M) (h : M ≤ 10) : ∃ E : Array Value, (∀ w : World, (Instr.makeSlice 26 (.int .i64 m) (.int .i64 m)).run Yba.prog w = .ok (.slice (some ⟨w.heap.size, 0, none⟩) M M) (w.alloc (.cells E 21))) ∧ E.size = M ∧ ∀ i, i < M → E[i]? = some (.int .i32 0) := by
  subst hm
  exact ⟨_, fun w => run_make_row' (P := Yba.prog) 26 21 (.int .i32 0) 4 Yba.underlying26 info21 rfl .i64 .i64 M (by omega) (by omega) w, size_madeCells _ _, fun i hi => made_at (.int .i32 0) M i hi⟩
/-- What the walks are told of a slice of int64 that came in. -/
def Row64 (w : World) (a : Option Addr) (len : Nat) (ps : List Int) : Prop :=
  ps.length = len ∧ (0 < len → ∃ b off, a = some ⟨b, off, none⟩ ∧ ∀ i, i < len → w.cell? ⟨b, off + i, none⟩ = some (.int .i64 (ps.getD i 0)))
/-- 'copy(potential, pot)': every cell of the new row holds an int64 behind it; nothing below it turns. -/
theorem copy24 (W : World) (g lp cp : Nat) (ap : Option Addr) (ps : List Int) (hg : W.heap[g]? = some (.cells (madeCells #[.int .i64 0] (lp + 1)) 2 (0, 0))) (hps : Row64 W ap lp ps) :
    ∃ w2 : World, (Builtin.copy_ #[24, 24] 3 #[.slice (some ⟨g, 0, none⟩) (lp + 1) (lp + 1), .slice ap lp cp]).run Yba.prog W = .ok (goInt lp) w2 ∧
      (∃ pot : Nat → Int, ∀ i, i < lp + 1 → w2.cell? ⟨g, i, none⟩ = some (.int .i64 (pot i))) ∧ Below g W w2 := by
  obtain ⟨hl, hrow⟩ := hps
  by_cases h0 : lp = 0
  · subst h0
    refine ⟨W, run_copy_none (P := Yba.prog) W 24 24 3 2 _ _ _ _ _ _ Yba.underlying24 size2 (by simp), ⟨fun _ => 0, fun i hi => ?_⟩, Below.refl _ _⟩
    simp only [World.cell?, hg]
    simp [made_at _ _ _ hi]
  · obtain ⟨b, off, rfl, hc⟩ := hrow (by omega)
    have hrun := run_copy_row (P := Yba.prog) W 24 24 3 2 g 0 (lp + 1) (lp + 1) ⟨b, off, none⟩ lp cp (madeCells #[.int .i64 0] (lp + 1)) 2 (ps.map (Value.int .i64)) Yba.underlying24 size2 hg (by simp [hl]) (fun j v hj => by
      obtain ⟨h1, h2⟩ := List.getElem?_eq_some_iff.1 hj
      have hjl : j < ps.length := by simpa using h1
      have h3 := hc j (by omega)
      rw [add_plain, h3, ← h2]
      simp [hjl]) (by simp [hl, size_madeCells]) (ints_oneCell _ _)
    rw [List.length_map, hl] at hrun
    refine ⟨_, hrun, ⟨fun i => if i < lp then ps.getD i 0 else 0, fun i hi => ?_⟩, below_setRow (Below.refl g W) (Nat.le_refl _) _⟩
    rw [cell_setRow_same W g i _ _ 2 _ hg]
    by_cases hi' : i < lp
    · simp [List.getElem?_append, hl, hi']
    · obtain rfl : i = lp := by omega
      have hm := made_at (.int .i64 0) (i + 1) i (by omega)
      have hm' : (madeCells #[.int .i64 0] (i + 1)).toList[i]? = some (.int .i64 0) := by rw [Array.getElem?_toList]; exact hm
      simp [List.getElem?_append, hl, hm]

theorem i32_pack (n k : Int) (h0 : 0 ≤ n) (h1 : n ≤ 1048576) (h2 : 0 ≤ k) (h3 : k < 4) : bits .or .i32 (n * 4) k = n * 4 + k := by
  obtain ⟨a, rfl⟩ := Int.eq_ofNat_of_zero_le h0
  obtain ⟨b, rfl⟩ := Int.eq_ofNat_of_zero_le h2
  have ea : ((a : Int) * 4) = ((a * 4 : Nat) : Int) := by omega
  rw [ea]
  show IntKind.i32.wrap ((BitVec.ofInt 32 ((a * 4 : Nat) : Int) ||| BitVec.ofInt 32 (b : Int)).toNat : Int) = _
  rw [BitVec.toNat_or, ofInt_u32 _ (by omega), ofInt_u32 _ (by omega), nat_join 2 (a * 4) b (by omega) (by omega), wrap_i32_small _ (by omega) (by omega)]
  omega
theorem i32_low (x : Int) (h0 : 0 ≤ x) (h1 : x < 2147483648) : bits .and .i32 x 3 = x % 4 := by
  obtain ⟨a, rfl⟩ := Int.eq_ofNat_of_zero_le h0
  show IntKind.i32.wrap ((BitVec.ofInt 32 (a : Int) &&& BitVec.ofInt 32 ((3 : Nat) : Int)).toNat : Int) = _
  rw [BitVec.toNat_and, ofInt_u32 _ (by omega), ofInt_u32 _ (by omega), nat_mask2, wrap_i32_small _ (by omega) (by omega)]
  omega

/-- The entry's row: its cells, and what has been laid in it by round k. -/
structure EntryAt (w : World) (b M : Nat) (pl : Int) (val : Nat → Int) (k : Nat) : Prop where
  cells : ∀ i, i < M → ∃ z, w.cell? ⟨b, i, none⟩ = some (.int .i32 z)
  free : ∀ i, w.frozen? ⟨b, i, none⟩ = false
  place : w.cell? ⟨b, 1, none⟩ = some (.int .i32 pl)
  vals : ∀ i, i < k → w.cell? ⟨b, 2 + i, none⟩ = some (.int .i32 (val i))
theorem EntryAt.store {w : World} {b M : Nat} {pl : Int} {val : Nat → Int} {k : Nat} (h : EntryAt w b M pl val k) (hk : 2 + k < M) :
    EntryAt (w.setCell ⟨b, 2 + k, none⟩ (.int .i32 (val k))) b M pl val (k + 1) := by
  obtain ⟨z, hz⟩ := h.cells (2 + k) hk
  have hsame : (w.setCell ⟨b, 2 + k, none⟩ (.int .i32 (val k))).cell? ⟨b, 2 + k, none⟩ = some (.int .i32 (val k)) := World.cell?_setCell_same _ _ _ hz
  have hother : ∀ i, i ≠ 2 + k → (w.setCell ⟨b, 2 + k, none⟩ (.int .i32 (val k))).cell? ⟨b, i, none⟩ = w.cell? ⟨b, i, none⟩ := fun i hi => by
    have hne : (⟨b, 2 + k, none⟩ : Addr) ≠ ⟨b, i, none⟩ := fun e => hi (by simpa using (Addr.mk.inj e).2.1.symm)
    exact World.cell?_setCell_other _ _ _ _ hne
  refine ⟨fun i hi => ?_, fun i => by rw [World.frozen?_setCell]; exact h.free i, ?_, fun i hi => ?_⟩
  · by_cases e : i = 2 + k
    · subst e; exact ⟨_, hsame⟩
    · obtain ⟨y, hy⟩ := h.cells i hi
      exact ⟨y, (hother i e).trans hy⟩
  · exact (hother 1 (by omega)).trans h.place
  · by_cases e : i = k
    · subst e; exact hsame
    · exact (hother (2 + i) (by omega)).trans (h.vals i (by omega))
theorem EntryAt.start {w : World} {E : Array Value} {M : Nat} {part pl : Int} {val : Nat → Int} (hE : ∀ i, i < M → E[i]? = some (.int .i32 0)) (hs : E.size = M) (hM : 3 ≤ M) :
    EntryAt (w.alloc (.cells ((E.setIfInBounds 0 (.int .i32 part)).setIfInBounds 1 (.int .i32 pl)) 21)) w.heap.size M pl val 0 := by
  refine ⟨fun i hi => ?_, fun i => World.frozen?_alloc_new _ _ _ _, ?_, fun i hi => absurd hi (by omega)⟩
  · rw [World.cell?_alloc_new]
    have h0 := hE i hi
    by_cases e1 : i = 1
    · subst e1; exact ⟨pl, by simp [Array.getElem?_setIfInBounds, hs]; omega⟩
    · by_cases e0 : i = 0
      · subst e0; exact ⟨part, by simp [Array.getElem?_setIfInBounds, hs]; omega⟩
      · exact ⟨0, by rw [Array.getElem?_setIfInBounds_ne (by omega), Array.getElem?_setIfInBounds_ne (by omega)]; exact h0⟩
  · rw [World.cell?_alloc_new]
    simp [Array.getElem?_setIfInBounds, hs]; omega
theorem Bytes.later {w w' : World} {a : Option Addr} {len : Nat} {f : Nat → Int} (h : Bytes w a len f) (hb : Below w.heap.size w w') : Bytes w' a len f :=
  ⟨h.1, fun i hi => by obtain ⟨p, q, b, off, ha, hc⟩ := h.2 i hi; exact ⟨p, q, b, off, ha, cell_later hb hc⟩⟩

theorem Row64.later {w w' : World} {a : Option Addr} {len : Nat} {ps : List Int} (h : Row64 w a len ps) (hb : Below w.heap.size w w') : Row64 w' a len ps :=
  ⟨h.1, fun hl => by obtain ⟨b, off, ha, hc⟩ := h.2 hl; exact ⟨b, off, ha, fun i hi => cell_later hb (hc i hi)⟩⟩

/-- What stands in memory behind zzs0324abuild: the chooser at A, the entry's row at b, the potentials at c. -/
structure Built (w : World) (A b c n : Nat) (R pl p0 p1 p2 : Int) (pot val : Nat → Int) : Prop where
  replicas : w.cell? ⟨A, 0, none⟩ = some (.int .i32 R)
  price0 : w.cell? ⟨A, 2, none⟩ = some (.int .i64 p0)
  price1 : w.cell? ⟨A, 3, none⟩ = some (.int .i64 p1)
  price2 : w.cell? ⟨A, 4, none⟩ = some (.int .i64 p2)
  potential : w.cell? ⟨A, 10, none⟩ = some (.slice (some ⟨c, 0, none⟩) n n)
  pots : ∀ i, i < n → w.cell? ⟨c, i, none⟩ = some (.int .i64 (pot i))
  place : w.cell? ⟨b, 1, none⟩ = some (.int .i32 pl)
  vals : ∀ i : Nat, (i : Int) < R → w.cell? ⟨b, 2 + i, none⟩ = some (.int .i32 (val i))

/-- The end of a call of zzs0324abuild. -/
def BuiltPost (w : World) (r place p0 p1 p2 : Int) (lp ln lk : Nat) (f g : Nat → Int) (e : Ending) (w' : World) : Prop :=
  ∃ (A b c M : Nat) (pot : Nat → Int), e = .returned (.tuple #[.pointer (some ⟨A, 0, none⟩), .slice (some ⟨b, 0, none⟩) M M]) ∧ 3 + r % 8 ≤ (M : Int) ∧ (M : Int) ≤ 3 + r % 8 ∧
    Built w' A b c (lp + 1) (1 + r % 8) (place % (1 + r % 8)) p0 p1 p2 pot (fun i => nodeOf f ln (lp + 1) i * 4 + kindOf g lk i) ∧ Below w.heap.size w w'
theorem builtPost_mk {w w' : World} {r place p0 p1 p2 : Int} {lp ln lk A b c M : Nat} {f g pot : Nat → Int} (h1 : 3 + r % 8 ≤ (M : Int)) (h2 : (M : Int) ≤ 3 + r % 8)
    (hB : Built w' A b c (lp + 1) (1 + r % 8) (place % (1 + r % 8)) p0 p1 p2 pot (fun i => nodeOf f ln (lp + 1) i * 4 + kindOf g lk i)) (hb : Below w.heap.size w w') :
    BuiltPost w r place p0 p1 p2 lp ln lk f g (.returned (.tuple #[.pointer (some ⟨A, 0, none⟩), .slice (some ⟨b, 0, none⟩) M M])) w' :=
  ⟨A, b, c, M, pot, rfl, h1, h2, hB, hb⟩

theorem built_of {w2 wr : World} {M c n k : Nat} {R R2 pl p0 p1 p2 : Int} {pot val : Nat → Int} (hE : EntryAt wr w2.heap.size M pl val k) (hb : Below w2.heap.size w2 wr) (hc : c < w2.heap.size)
    (hp : ∀ i, i < n → w2.cell? ⟨c, i, none⟩ = some (.int .i64 (pot i))) (hk : R ≤ k) :
    Built (wr.alloc (.cells #[.int .i32 R, .int .i64 R2, .int .i64 p0, .int .i64 p1, .int .i64 p2, .int .i64 0, .slice none 0 0, .slice none 0 0, .slice none 0 0, .slice none 0 0, .slice (some ⟨c, 0, none⟩) n n, .slice none 0 0, .slice none 0 0, .slice none 0 0, .slice none 0 0] 33)) wr.heap.size w2.heap.size c n R pl p0 p1 p2 pot val := by
  have hb' : Below wr.heap.size wr (wr.alloc (.cells #[.int .i32 R, .int .i64 R2, .int .i64 p0, .int .i64 p1, .int .i64 p2, .int .i64 0, .slice none 0 0, .slice none 0 0, .slice none 0 0, .slice none 0 0, .slice (some ⟨c, 0, none⟩) n n, .slice none 0 0, .slice none 0 0, .slice none 0 0, .slice none 0 0] 33)) := (Below.refl _ _).alloc (Nat.le_refl _) _
  refine ⟨by simp, by simp, by simp, by simp, by simp, fun i hi => ?_, cell_later hb' hE.place, fun i hi => cell_later hb' (hE.vals i (by omega))⟩
  exact cell_later hb' ((hb.cell (show c < w2.heap.size from hc)).trans (hp i hi))

set_option maxHeartbeats 400000 in
/-- zzs0324abuild. -/
theorem build_any (r place part : Int) (an ak ap : Option Addr) (ln cn lk ck lp cp : Nat) (ps : List Int) (p0 p1 p2 : Int) (w : World) (hr : 0 ≤ r) (hr' : r ≤ 255) (hp : 0 ≤ place) (hp' : place ≤ 255) (hlp : lp ≤ 1024)
    (hps : Row64 w ap lp ps) (f g : Nat → Int) (hf : Bytes w an ln f) (hg : Bytes w ak lk g) :
    Calls Yba.prog 7 #[.int .u8 r, .int .u8 place, .int .i32 part, .slice an ln cn, .slice ak lk ck, .agg #[.int .i64 p0, .int .i64 p1, .int .i64 p2], .slice ap lp cp] w (BuiltPost w r place p0 p1 p2 lp ln lk f g) := by
  obtain ⟨M, hM⟩ : ∃ M : Nat, 2 + (1 + r % 8) = (M : Int) := ⟨(3 + r % 8).toNat, by omega⟩
  obtain ⟨w2, hcp, ⟨pot, hpot⟩, hb2⟩ := copy24 ((w.alloc (.cells #[.int .i64 p0, .int .i64 p1, .int .i64 p2] 23)).alloc (.cells (madeCells #[.int .i64 0] (lp + 1)) 2)) (w.heap.size + 1) lp cp ap ps (heap_alloc2_new _ _ _) (hps.later (((Below.refl _ _).alloc (Nat.le_refl _) _).alloc (by simp) _))
  have k24 := mk24 lp hlp
  obtain ⟨E, k26, hE, hE0⟩ := mk26 _ M hM (by omega)
  have hM1 : (M : Int) ≤ 3 + r % 8 := by omega
  have hM2 : 3 + r % 8 ≤ (M : Int) := by omega
  have hq0 : 0 ≤ place % (1 + r % 8) := Int.emod_nonneg _ (by omega)
  have hq1 : place % (1 + r % 8) ≤ 7 := by have := Int.emod_lt_of_pos place (show 0 < 1 + r % 8 by omega); omega
  have e0 := hE0 0 (by omega)
  have e1 := hE0 1 (by omega)
  have S0 : Hid (EntryAt (w2.alloc (.cells ((E.setIfInBounds 0 (.int .i32 part)).setIfInBounds 1 (.int .i32 (place % (1 + r % 8)))) 21)) w2.heap.size M (place % (1 + r % 8)) (fun i => nodeOf f ln (lp + 1) i * 4 + kindOf g lk i) 0) := EntryAt.start hE0 hE (by omega)
  have hw2 : Below w.heap.size w w2 := (((Below.refl _ _).alloc (Nat.le_refl _) _).alloc (by simp) _).trans (hb2.mono (by omega))
  have hsz : w.heap.size + 2 ≤ w2.heap.size := by have := hb2.size; simp at this; omega
  have hc0 : w2.cell? ⟨w.heap.size, 0, none⟩ = some (.int .i64 p0) := (hb2.cell (Nat.lt_succ_self _)).trans (by simp)
  have hc1 : w2.cell? ⟨w.heap.size, 1, none⟩ = some (.int .i64 p1) := (hb2.cell (Nat.lt_succ_self _)).trans (by simp)
  have hc2 : w2.cell? ⟨w.heap.size, 2, none⟩ = some (.int .i64 p2) := (hb2.cell (Nat.lt_succ_self _)).trans (by simp)
  have HP : Hid (∀ i, i < lp + 1 → w2.cell? ⟨w.heap.size + 1, i, none⟩ = some (.int .i64 (pot i))) := hpot
  clear hM hpot hps hE0 hb2
  go_enter Yba.func7, Yba.ntmps7
  go_wp2
  go_loopw [20] (fun j wr => ∃ k : Nat, (k : Int) ≤ 1 + r % 8 ∧ j = .int .i64 k ∧ EntryAt wr w2.heap.size M (place % (1 + r % 8)) (fun i => nodeOf f ln (lp + 1) i * 4 + kindOf g lk i) k ∧ Below w2.heap.size w2 wr) (fun j _ => (1 + r % 8 - intOf j).toNat)
  case atStart => exact ⟨0, by omega, rfl, S0.out, (Below.refl _ _).alloc (Nat.le_refl _) _⟩
  case round =>
    obtain ⟨k, hk, rfl, hE, hbr⟩ := hrel
    by_cases hlt : (k : Int) < 1 + r % 8
    · obtain ⟨z, hz⟩ := hE.cells (2 + k) (by omega)
      have n1 := nodeOf_bd f ln (lp + 1) k (by omega)
      have n2 := kindOf_bd g lk k
      have hfree := hE.free (2 + k)
      have hpk := i32_pack (nodeOf f ln (lp + 1) k) (kindOf g lk k) (by omega) (by omega) (by omega) (by omega)
      have hwr : Below w.heap.size w wr := hw2.trans (hbr.mono (by omega))
      have hf' := hf.later hwr
      have hg' := hg.later hwr
      have H : Hid (EntryAt (wr.setCell ⟨w2.heap.size, 2 + k, none⟩ (.int .i32 (nodeOf f ln (lp + 1) k * 4 + kindOf g lk k))) w2.heap.size M (place % (1 + r % 8)) (fun i => nodeOf f ln (lp + 1) i * 4 + kindOf g lk i) (k + 1)) := hE.store (by omega)
      clear hc0 hc1 hc2 hE
      go_wp2_with (go_at_call 8; refine (slot_any _ _ _ _ _ _ _ _ f g _ (by omega) (by omega) (by omega) (by omega) hf' hg').mono ?_; rintro e w' ⟨rfl, rfl⟩)
      go_roundw
      case rel => exact ⟨k + 1, by omega, by go_num, H.out, hbr.setCell (Nat.le_refl _) _⟩
      case measure => simp [intOf]; omega
    · have c0 : wr.cell? ⟨w.heap.size, 0, none⟩ = some (.int .i64 p0) := (hbr.cell (show w.heap.size < w2.heap.size by omega)).trans hc0
      have c1 : wr.cell? ⟨w.heap.size, 1, none⟩ = some (.int .i64 p1) := (hbr.cell (show w.heap.size < w2.heap.size by omega)).trans hc1
      have c2 : wr.cell? ⟨w.heap.size, 2, none⟩ = some (.int .i64 p2) := (hbr.cell (show w.heap.size < w2.heap.size by omega)).trans hc2
      have HB : Hid (Built (wr.alloc (.cells #[.int .i32 (1 + r % 8), .int .i64 (2 + (1 + r % 8)), .int .i64 p0, .int .i64 p1, .int .i64 p2, .int .i64 0, .slice none 0 0, .slice none 0 0, .slice none 0 0, .slice none 0 0, .slice (some ⟨w.heap.size + 1, 0, none⟩) (lp + 1) (lp + 1), .slice none 0 0, .slice none 0 0, .slice none 0 0, .slice none 0 0] 33)) wr.heap.size w2.heap.size (w.heap.size + 1) (lp + 1) (1 + r % 8) (place % (1 + r % 8)) p0 p1 p2 pot (fun i => nodeOf f ln (lp + 1) i * 4 + kindOf g lk i)) :=
        built_of hE hbr (by omega) HP.out (by omega)
      have hwr : Below w.heap.size w wr := hw2.trans (hbr.mono (by omega))
      clear hE HP
      go_wp2
      go_ret2
      exact builtPost_mk hM2 hM1 HB.out (hwr.alloc hwr.size _)

end Go.Proofs.Ybulkfrm

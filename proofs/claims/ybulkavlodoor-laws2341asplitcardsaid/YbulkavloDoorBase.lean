/-
  The leaves of both roads: math/bits.TrailingZeros64, newBitset, add, has, span; what the call's own memory holds.
-/
import Derived.Test.YbulkavloDoorRows
import Derived.Test.YbulkavloDoorPlain
import Derived.WalkKit
import Derived.WalkSpells
import Derived.WalkLawsBesides
import Derived.RegionTactic
import Derived.ChangeAlike
import Derived.Laws.BitsAllLaws
import Derived.Shelf.Spec.TrailingZeros
import Derived.Laws.MakeOwn
import Derived.Laws.Rows
namespace Go.Proofs.YbulkavloDoor
open Go.RowKit

/-- The words as cells. -/
def rowOf (ws : List Nat) : Array Value := (ws.map fun x : Nat => Value.int .u64 (x : Int)).toArray

/-- A row of words in block g. -/
def Row (w : World) (g : Nat) (ws : List Nat) : Prop := w.heap[g]? = some (.cells (rowOf ws) 42 (0, 0))

theorem Row.cell {w : World} {g : Nat} {ws : List Nat} (h : Row w g ws) {j : Nat} (hj : j < ws.length) : w.cell? ⟨g, j, none⟩ = some (.int .u64 ((ws.getD j 0 : Nat) : Int)) := by
  rw [cell_of_row w g j _ 42 (0, 0) h]
  simp [rowOf, List.getElem?_eq_getElem hj]

theorem Row.frozen {w : World} {g : Nat} {ws : List Nat} (h : Row w g ws) (j : Nat) : w.frozen? ⟨g, j, none⟩ = false := frozen_of_row w g j _ 42 h

theorem Row.set {w : World} {g : Nat} {ws : List Nat} (h : Row w g ws) (j x : Nat) : Row (w.setCell ⟨g, j, none⟩ (.int .u64 (x : Int))) g (ws.set j x) := by
  unfold Row
  rw [heap_setCell_same w g j _ 42 _ h]
  congr 2
  apply Array.ext'
  simp [rowOf, List.map_set]

/-- TrailingZeros64's table, in its variable. -/
def Tab (w : World) : Prop := ∀ j, j < 64 → w.cell? ⟨0, j, none⟩ = some (.int .u8 ((Lib.deBruijn64tab.getD j 0 : Nat) : Int))

set_option maxHeartbeats 1000000 in
theorem tz_core (x k idx : Nat) (w : World) (hx0 : ((x : Int) == 0) = false)
    (key : IntKind.u64.wrap (bits BinOp.and IntKind.u64 (x : Int) (IntKind.u64.wrap (-(x : Int))) * 285870213051353865) / 288230376151711744 = (idx : Int))
    (hi : idx < 64) (hk : k < 64) (hcell : w.cell? ⟨0, idx, none⟩ = some (.int .u8 k)) :
    Calls Ybad.prog 17 #[.int .u64 x] w fun e w' => e = .returned (.int .i64 k) ∧ w' = w := by
  go_enter Ybad.func17, Ybad.ntmps17
  go_wp2_with (simp only [key])
  go_ret
  exact ⟨rfl, rfl⟩

theorem tz_any (x : Nat) (w : World) (hx : x < 18446744073709551616) (hx0 : x ≠ 0) (hT : Tab w) :
    Calls Ybad.prog 17 #[.int .u64 x] w fun e w' => e = .returned (.int .i64 (Lib.ctz 64 x)) ∧ w' = w := by
  obtain ⟨hlow, hk⟩ := Lib.lowest_bit 64 x hx0 hx
  obtain ⟨hi, htab⟩ := Lib.deBruijn64_at _ hk
  have hcell := hT _ hi
  rw [htab] at hcell
  exact tz_core x _ _ w (by simp; omega) (tz64_key x _ hx hx0 hlow) hi hk hcell

theorem info42 : (Ybad.prog.info? 42).map (fun i => (i.zero, i.size, i.bytes)) = some (some (.int .u64 0), 1, 8) := by kernel_rfl

theorem madeRow (m : Nat) : madeCells (Value.int .u64 0).cells (m * 1) = (rowOf (List.replicate m 0)) := by
  apply Array.ext'
  have : (Value.int .u64 0).cells = #[.int .u64 0] := rfl
  rw [this, Nat.mul_one, toList_madeCells_one]
  simp [rowOf]

theorem make_run (m : Nat) (hm : m ≤ 1000000) (w : World) : (Instr.makeSlice 37 (.int .i64 (m : Int)) (.int .i64 (m : Int))).run Ybad.prog w =
    .ok (.slice (some ⟨w.heap.size, 0, none⟩) m m) (w.alloc (.cells (rowOf (List.replicate m 0)) 42)) := by
  obtain ⟨i0, hi, hz0, hz1, hz2⟩ := info_parts info42
  have := run_make (P := Ybad.prog) w 37 42 i0 (.int .u64 0) Ybad.underlying37 hi hz0 .i64 .i64 m m (by omega) (Int.le_refl _) (by rw [hz2]; omega) (by omega)
  rw [this, hz1, Int.toNat_natCast, madeRow]

theorem and63 (i : Nat) : i % 64 < 64 := Nat.mod_lt _ (by decide)

/-- newBitset. -/
theorem new_any (a : Int) (n m : Nat) (w : World) (ha : a = (n : Int)) (hn : n ≤ 2000000) (hm : (n + 63) / 64 = m) :
    Calls Ybad.prog 13 #[.int .i64 a] w fun e w' => e = .returned (.slice (some ⟨w.heap.size, 0, none⟩) m m) ∧ w' = w.alloc (.cells (rowOf (List.replicate m 0)) 42) := by
  subst ha
  have hmk := make_run m (by omega)
  have e : ((n : Int) + 63) / 64 = (m : Int) := by omega
  clear hm
  have hmk' : ∀ w : World, (Instr.makeSlice 37 (.int .i64 (((n : Int) + 63) / 64)) (.int .i64 (((n : Int) + 63) / 64))).run Ybad.prog w =
    .ok (.slice (some ⟨w.heap.size, 0, none⟩) m m) (w.alloc (.cells (rowOf (List.replicate m 0)) 42)) := by rw [e]; exact hmk
  clear e hmk
  generalize (rowOf (List.replicate m 0)) = cs at *
  go_enter Ybad.func13, Ybad.ntmps13
  go_wp2
  go_ret
  exact ⟨rfl, rfl⟩

theorem pow_u64 (i : Nat) : IntKind.u64.wrap ((2 : Int) ^ (i % 64)) = ((2 ^ (i % 64) : Nat) : Int) := by
  have h2 : (2 ^ (i % 64) : Nat) < 18446744073709551616 := Nat.pow_lt_pow_right (n := 64) (by decide) (and63 i)
  have e : ((2 : Int) ^ (i % 64)) = ((2 ^ (i % 64) : Nat) : Int) := by simp
  rw [IntKind.wrap_u64, e]
  generalize 2 ^ (i % 64) = c at *
  omega

/-- The word that 'add' stores, as the walk spells it. -/
theorem or_word (x i : Nat) (hx : x < 18446744073709551616) :
    bits .or .u64 (x : Int) (IntKind.u64.wrap (2 ^ (i % 64))) = ((x ||| 2 ^ (i % 64) : Nat) : Int) := by
  rw [pow_u64]
  exact u64_or_nat _ _ hx (Nat.pow_lt_pow_right (n := 64) (by decide) (and63 i))

/-- (bitset).add. -/
theorem add_any (g l : Nat) (a : Int) (i x : Nat) (w : World) (ha : a = (i : Int)) (hx : x < 18446744073709551616) (hi : i / 64 < l) (hi2 : i ≤ 2000000) (hc : w.cell? ⟨g, i / 64, none⟩ = some (.int .u64 (x : Int))) (hf : w.frozen? ⟨g, i / 64, none⟩ = false) :
    Calls Ybad.prog 14 #[.slice (some ⟨g, 0, none⟩) l l, .int .i64 a] w fun e w' => e = .returned (.tuple #[]) ∧ w' = (w.setCell ⟨g, i / 64, none⟩ (.int .u64 ((x ||| 2 ^ (i % 64) : Nat) : Int))).drew := by
  subst ha
  have hor := or_word x i hx
  go_enter Ybad.func14, Ybad.ntmps14
  go_region
  go_end0
  exact ⟨rfl, rfl⟩

theorem ret_int {k : IntKind} {a b : Int} (h : a = b) : Ending.returned (.int k a) = .returned (.int k b) := by rw [h]
theorem ret_bool {a b : Bool} (h : a = b) : Ending.returned (.bool a) = .returned (.bool b) := by rw [h]

theorem and_bit (x i : Nat) (hx : x < 18446744073709551616) : (bits .and .u64 (x : Int) (IntKind.u64.wrap (2 ^ (i % 64))) != 0) = x.testBit (i % 64) := by
  have h2 : (2 ^ (i % 64) : Nat) < 18446744073709551616 := Nat.pow_lt_pow_right (n := 64) (by decide) (and63 i)
  have h0 : 0 < 2 ^ (i % 64) := Nat.two_pow_pos _
  rw [pow_u64, u64_and_nat _ _ hx h2, nat_bit, Nat.testBit_eq_decide_div_mod_eq]
  generalize 2 ^ (i % 64) = c at *
  rcases Nat.mod_two_eq_zero_or_one (x / c) with h | h <;> rw [h]
  · simp
  · simp; omega

/-- (bitset).has. -/
theorem has_any (g i l : Nat) (x : Nat) (w : World) (hx : x < 18446744073709551616) (hi : i / 64 < l) (hi2 : i ≤ 2000000) (hc : w.cell? ⟨g, i / 64, none⟩ = some (.int .u64 (x : Int))) :
    Calls Ybad.prog 18 #[.slice (some ⟨g, 0, none⟩) l l, .int .i64 i] w fun e w' => e = .returned (.bool (x.testBit (i % 64))) ∧ w' = w := by
  go_enter Ybad.func18, Ybad.ntmps18
  go_wp2
  go_ret
  exact ⟨ret_bool (and_bit x i hx), rfl⟩

theorem shl_word (s : Nat) : IntKind.u64.wrap (18446744073709551615 * 2 ^ (s % 64)) = ((18446744073709551615 * 2 ^ (s % 64) % 18446744073709551616 : Nat) : Int) := by
  have e : ((2 : Int) ^ (s % 64)) = ((2 ^ (s % 64) : Nat) : Int) := by simp
  rw [IntKind.wrap_u64, e]
  generalize 2 ^ (s % 64) = c
  omega

theorem shr_word (f : Nat) : (18446744073709551615 : Int) / 2 ^ (64 - f % 64) = ((18446744073709551615 / 2 ^ (64 - f % 64) : Nat) : Int) := by
  have e : ((2 : Int) ^ (64 - f % 64)) = ((2 ^ (64 - f % 64) : Nat) : Int) := by simp
  rw [e]
  exact (Int.natCast_ediv _ _).symm

theorem span_tt (a start fin : Nat) (h1 : ((a : Int) == (start : Int) / 64) = true) (h2 : (fin : Int) < ((a : Int) + 1) * 64) :
    bits .and .u64 (IntKind.u64.wrap (18446744073709551615 * 2 ^ (start % 64))) (18446744073709551615 / 2 ^ (64 - fin % 64)) = ((Pl.span a start fin : Nat) : Int) := by
  have e1 : a = start / 64 := by have := eq_of_beq h1; omega
  have e2 : fin < (a + 1) * 64 := by omega
  rw [shl_word, shr_word, u64_and_nat _ _ (Nat.mod_lt _ (by decide)) (Nat.lt_of_le_of_lt (Nat.div_le_self _ _) (by decide))]
  simp only [Pl.span, if_pos e1, if_pos e2]

theorem span_tf (a start fin : Nat) (h1 : ((a : Int) == (start : Int) / 64) = true) (h2 : ((a : Int) + 1) * 64 ≤ (fin : Int)) :
    IntKind.u64.wrap (18446744073709551615 * 2 ^ (start % 64)) = ((Pl.span a start fin : Nat) : Int) := by
  have e1 : a = start / 64 := by have := eq_of_beq h1; omega
  have e2 : ¬ fin < (a + 1) * 64 := by omega
  rw [shl_word]
  simp only [Pl.span, if_pos e1, if_neg e2]

theorem span_ft (a start fin : Nat) (h1 : ((a : Int) == (start : Int) / 64) = false) (h2 : (fin : Int) < ((a : Int) + 1) * 64) :
    bits .and .u64 18446744073709551615 (18446744073709551615 / 2 ^ (64 - fin % 64)) = ((Pl.span a start fin : Nat) : Int) := by
  have e1 : ¬ a = start / 64 := by have := ne_of_beq_false h1; omega
  have e2 : fin < (a + 1) * 64 := by omega
  rw [shr_word, show (18446744073709551615 : Int) = ((18446744073709551615 : Nat) : Int) from rfl, u64_and_nat _ _ (by decide) (Nat.lt_of_le_of_lt (Nat.div_le_self _ _) (by decide))]
  simp only [Pl.span, if_neg e1, if_pos e2]

theorem span_ff (a start fin : Nat) (h1 : ((a : Int) == (start : Int) / 64) = false) (h2 : ((a : Int) + 1) * 64 ≤ (fin : Int)) :
    (18446744073709551615 : Int) = ((Pl.span a start fin : Nat) : Int) := by
  have e1 : ¬ a = start / 64 := by have := ne_of_beq_false h1; omega
  have e2 : ¬ fin < (a + 1) * 64 := by omega
  simp only [Pl.span, if_neg e1, if_neg e2]
  rfl

/-- span. -/
theorem span_any (f : Int) (a start fin : Nat) (w : World) (hfin : f = (fin : Int)) (ha : a ≤ 2000000) (hs : start ≤ 2000000) (hf : fin ≤ 2000000) :
    Calls Ybad.prog 16 #[.int .i64 a, .int .i64 start, .int .i64 f] w fun e w' => e = .returned (.int .u64 (Pl.span a start fin)) ∧ w' = w := by
  subst hfin
  go_enter Ybad.func16, Ybad.ntmps16
  go_wp2
  all_goals go_ret
  · exact ⟨ret_int (span_tt a start fin ‹_› ‹_›), rfl⟩
  · exact ⟨ret_int (span_tf a start fin ‹_› ‹_›), rfl⟩
  · exact ⟨ret_int (span_ft a start fin ‹_› ‹_›), rfl⟩
  · exact ⟨ret_int (span_ff a start fin ‹_› ‹_›), rfl⟩

/-- The struct 'blocks' in block B: the string's length, its two sets. -/
def Blk (w : World) (B : Nat) (n : Nat) (f : Value) (N l : Nat) : Prop :=
  w.heap[B]? = some (.cells #[.int .i64 n, f, .slice (some ⟨N, 0, none⟩) l l, .int .i64 (-1)] 41 (0, 0))

theorem Blk.cell0 {w : World} {B n : Nat} {f : Value} {N l : Nat} (h : Blk w B n f N l) : w.cell? ⟨B, 0, none⟩ = some (.int .i64 n) := by
  rw [cell_of_row w B 0 _ 41 (0, 0) h]; rfl
theorem Blk.cell1 {w : World} {B n : Nat} {f : Value} {N l : Nat} (h : Blk w B n f N l) : w.cell? ⟨B, 1, none⟩ = some f := by
  rw [cell_of_row w B 1 _ 41 (0, 0) h]; rfl
theorem Blk.cell2 {w : World} {B n : Nat} {f : Value} {N l : Nat} (h : Blk w B n f N l) : w.cell? ⟨B, 2, none⟩ = some (.slice (some ⟨N, 0, none⟩) l l) := by
  rw [cell_of_row w B 2 _ 41 (0, 0) h]; rfl

theorem q37 (w : World) (a : Option Addr) (n c n' c' : Nat) : (binOp .eql 37 (.slice a n c) (.slice none n' c')).run Ybad.prog w = .ok (.bool a.isNone) w := Lib.run_eql_slice_nil w _ _ a n c n' c' Ybad.underlying37
theorem nq37 (w : World) (a : Option Addr) (n c n' c' : Nat) : (binOp .neq 37 (.slice a n c) (.slice none n' c')).run Ybad.prog w = .ok (.bool (!a.isNone)) w := run_neq_slice_nil_any w _ _ a n c n' c' Ybad.underlying37

/-- pastOnes, where the string is one block. -/
theorem past_one (B n N l : Nat) (w : World) (hB : Blk w B n (.slice none 0 0) N l) :
    Calls Ybad.prog 12 #[.pointer (some ⟨B, 0, none⟩), .int .i64 0] w fun e w' => e = .returned (.int .i64 (if 1 < n then 0 else n : Nat)) ∧ w' = w := by
  have h0 := hB.cell0
  have h1 := hB.cell1
  have hq := q37
  clear hB
  by_cases hn : 1 < n
  · rw [if_pos hn]
    go_enter Ybad.func12, Ybad.ntmps12
    go_wp2
    go_ret
    exact ⟨rfl, rfl⟩
  · rw [if_neg hn]
    go_enter Ybad.func12, Ybad.ntmps12
    go_wp2
    go_ret
    exact ⟨rfl, rfl⟩

/-- w' is w but for what block g holds. -/
structure Upd (S : List Nat) (w w' : World) : Prop where
  os : w'.os = w.os
  tape : w'.tape = w.tape
  output : w'.output = w.output
  size : w'.heap.size = w.heap.size
  block : ∀ k, k ∉ S → w'.heap[k]? = w.heap[k]?

theorem Upd.refl (S : List Nat) (w : World) : Upd S w w := ⟨rfl, rfl, rfl, rfl, fun _ _ => rfl⟩
theorem Upd.trans {S : List Nat} {a b c : World} (h : Upd S a b) (h' : Upd S b c) : Upd S a c :=
  ⟨h'.os.trans h.os, h'.tape.trans h.tape, h'.output.trans h.output, h'.size.trans h.size, fun k hk => (h'.block k hk).trans (h.block k hk)⟩
theorem Upd.mono {S T : List Nat} {a b : World} (h : Upd S a b) (hST : ∀ k, k ∈ S → k ∈ T) : Upd T a b :=
  ⟨h.os, h.tape, h.output, h.size, fun k hk => h.block k (fun hm => hk (hST k hm))⟩
theorem Upd.below {S : List Nat} {a b : World} {B : Nat} (h : Upd S a b) (hB : ∀ k, k ∈ S → B ≤ k) : Below B a b :=
  ⟨h.os, h.tape, h.output, Nat.le_of_eq h.size.symm, fun k hk => h.block k (fun hm => by have := hB k hm; omega)⟩
theorem Upd.row {S : List Nat} {a b : World} (h : Upd S a b) {g : Nat} {ws : List Nat} (hr : Row a g ws) (hg : g ∉ S) : Row b g ws := (h.block g hg).trans hr
theorem Upd.blk {S : List Nat} {a b : World} (h : Upd S a b) {B n N l : Nat} {f : Value} (hr : Blk a B n f N l) (hg : B ∉ S) : Blk b B n f N l := (h.block B hg).trans hr

theorem upd_set (w : World) (g j : Nat) (v : Value) : Upd [g] w (w.setCell ⟨g, j, none⟩ v).drew :=
  ⟨rfl, rfl, rfl, by simp [World.setCell, World.drew], fun k hk => heap_setCell_other w ⟨g, j, none⟩ k v (by simpa using hk)⟩

/-- (bitset).add, over a row. -/
theorem add_row (g l : Nat) (a : Int) (i : Nat) (ws : List Nat) (w : World) (hr : Row w g ws) (hl : ws.length = l) (hw : Pl.Words ws) (ha : a = (i : Int)) (hi : i / 64 < l) (hi2 : i ≤ 2000000) :
    Calls Ybad.prog 14 #[.slice (some ⟨g, 0, none⟩) l l, .int .i64 a] w fun e w' => e = .returned (.tuple #[]) ∧ Row w' g (Pl.add ws i) ∧ Upd [g] w w' := by
  refine (add_any g l a i (ws.getD (i / 64) 0) w ha (Pl.words_getD hw _) hi hi2 (hr.cell (by omega)) (hr.frozen _)).mono ?_
  rintro e w' ⟨rfl, rfl⟩
  exact ⟨rfl, hr.set _ _, upd_set w g _ _⟩

theorem row_new (w : World) (ws : List Nat) : Row (w.alloc (.cells (rowOf ws) 42)) w.heap.size ws := heap_alloc_new w _
theorem Row.alloc {w : World} {g : Nat} {ws : List Nat} (h : Row w g ws) (o : Obj) : Row (w.alloc o) g ws := by
  have hlt : g < w.heap.size := by
    apply Nat.lt_of_not_le
    intro hle
    unfold Row at h
    rw [Array.getElem?_eq_none hle] at h
    cases h
  exact (Below.heap_alloc w o g hlt).trans h

/-- oneBlock. -/
theorem one_any (n : Nat) (w : World) (hn : n ≤ 1048576) :
    Calls Ybad.prog 11 #[.int .i64 n] w fun e w' => e = .returned (.pointer (some ⟨w.heap.size + 1, 0, none⟩)) ∧ (∃ m, Blk w' (w.heap.size + 1) n (.slice none 0 0) w.heap.size m) ∧ Below w.heap.size w w' ∧ w'.heap.size = w.heap.size + 2 := by
  obtain ⟨m, hm⟩ : ∃ m, (n / 4096 + 1 + 63) / 64 = m := ⟨_, rfl⟩
  have hm1 : 1 ≤ m := by omega
  have HM : Hid ((n / 4096 + 1 + 63) / 64 = m) := hm; clear hm
  go_enter Ybad.func11, Ybad.ntmps11
  go_wp2_with fail
  refine (new_any _ (n / 4096 + 1) m _ (by omega) (by omega) HM.out).mono ?_
  rintro e w' ⟨rfl, rfl⟩
  go_wp2_with fail
  refine (add_row w.heap.size m 0 0 (List.replicate m 0) _ ((row_new w _).alloc _) (by simp) (Pl.words_zero m) rfl (by omega) (by omega)).mono ?_
  rintro e w' ⟨rfl, _, hu⟩
  go_wp2
  go_ret
  refine ⟨rfl, ⟨m, ?_⟩, ?_, ?_⟩
  · have hb : Blk ((w.alloc (Obj.cells (rowOf (List.replicate m 0)) 42)).alloc
      (Obj.cells #[Value.int IntKind.i64 ↑n, Value.slice none 0 0, Value.slice (some { block := w.heap.size, off := 0 }) m m, Value.int IntKind.i64 (-1)] 41)) (w.heap.size + 1) n (.slice none 0 0) w.heap.size m := by
      have := heap_alloc_new (w.alloc (Obj.cells (rowOf (List.replicate m 0)) 42)) (Obj.cells #[Value.int IntKind.i64 ↑n, Value.slice none 0 0, Value.slice (some { block := w.heap.size, off := 0 }) m m, Value.int IntKind.i64 (-1)] 41)
      rw [World.size_alloc] at this
      exact this
    exact hu.blk hb (by simp)
  · exact (((Below.refl _ w).alloc (Nat.le_refl _) _).alloc (by simp) _).trans (hu.below (by simp))
  · rw [hu.size]; simp

/-- The word of the others, as the walk spells it. -/
theorem others_word (x nx s : Nat) (hx : x < 18446744073709551616) (hs : s < 18446744073709551616) :
    bits .and .u64 (bits .xor .u64 18446744073709551615 (bits .and .u64 (x : Int) (bits .or .u64 ((x : Int) / 2) (IntKind.u64.wrap ((nx : Int) * 9223372036854775808))))) (s : Int)
      = (((18446744073709551615 ^^^ Pl.onesW x nx) &&& s : Nat) : Int) := by
  have e1 : (x : Int) / 2 = ((x / 2 : Nat) : Int) := by omega
  have e2 : IntKind.u64.wrap ((nx : Int) * 9223372036854775808) = ((nx * 2 ^ 63 % 18446744073709551616 : Nat) : Int) := by rw [IntKind.wrap_u64]; omega
  have h1 : x / 2 < 18446744073709551616 := by omega
  have h2 : nx * 2 ^ 63 % 18446744073709551616 < 18446744073709551616 := Nat.mod_lt _ (by decide)
  have h3 : x / 2 ||| nx * 2 ^ 63 % 18446744073709551616 < 18446744073709551616 := Nat.or_lt_two_pow (n := 64) h1 h2
  have h4 : x &&& (x / 2 ||| nx * 2 ^ 63 % 18446744073709551616) < 18446744073709551616 := Nat.lt_of_le_of_lt Nat.and_le_left hx
  rw [e1, e2, u64_or_nat _ _ h1 h2, u64_and_nat _ _ hx h3, show (18446744073709551615 : Int) = ((18446744073709551615 : Nat) : Int) from rfl, u64_xor_nat _ _ (by decide) h4,
    u64_and_nat _ _ (Nat.xor_lt_two_pow (n := 64) (by decide) h4) hs]
  rfl

theorem others_word0 (x s : Nat) (hx : x < 18446744073709551616) (hs : s < 18446744073709551616) :
    bits .and .u64 (bits .xor .u64 18446744073709551615 (bits .and .u64 (x : Int) (bits .or .u64 ((x : Int) / 2) 0))) (s : Int)
      = (((18446744073709551615 ^^^ Pl.onesW x 0) &&& s : Nat) : Int) := by
  have e : IntKind.u64.wrap (((0 : Nat) : Int) * 9223372036854775808) = 0 := by rw [IntKind.wrap_u64]; omega
  rw [← others_word x 0 s hx hs, e]

end Go.Proofs.YbulkavloDoor

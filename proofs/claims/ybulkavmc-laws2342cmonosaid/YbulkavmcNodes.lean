/-
  Nodes: the iterator over a set's nodes.
-/
import Derived.Test.YbulkavmcStr
import Derived.RangeFuncNested
import Derived.RangeFuncBound
import Derived.RangeFuncCalls
import Derived.RangeFuncLeaves
import Derived.Shelf.Abstract
import Derived.Shelf.RegionOpen
import Derived.OwnWalkIn
import Derived.TacticsInMore
import Derived.LoopNIn
import Derived.LoopIn
namespace Go.Proofs.Ybulkavmc.Ns
open Go.RowKit Go.Shelf
attribute [local go_sem] Oper.semAt_some

/-- The nodes of the set m, in their order. -/
def bitsL (m : Nat) : List (Fin 6) := [0, 1, 2, 3, 4, 5].filter fun i => m.testBit i.val

theorem bitsL_len : ∀ m : Fin 64, (bitsL m.val).length = Hit.pc m.val := by decide +kernel

/-- Byte j of a string. -/
def byteAt (l : List UInt8) (j : Nat) : Nat := (l.getD j 0).toNat

theorem byteAt_lt (l : List UInt8) (j : Nat) : byteAt l j < 256 := UInt8.toNat_lt _

theorem idx_run (s : ByteArray) (j : Nat) (i : Int) (hj : j < s.size) (hi : i = (j : Int)) (w : World) :
    (Instr.index 30 (.string s) (.int .i64 i)).run Yba.prog w = .ok (.int .u8 ((byteAt s.data.toList j : Nat) : Int)) w := by
  subst hi
  rw [run_index_string w 30 s .i64 _ Yba.underlying30, dif_pos (by omega)]
  have e : (s[(j : Int).toNat]'(by omega)) = s.data.toList.getD j 0 := by
    have hj' : j < s.data.toList.length := hj
    rw [List.getD_eq_getElem?_getD, List.getElem?_eq_getElem hj']
    rfl
  rw [e]
  rfl

/-- The number that the iterator makes out of the four bytes at place k. -/
def valAt (l : List UInt8) (k : Nat) : Int := bits .or .i64 (bits .or .i64 (bits .or .i64 ((byteAt l (4 * k) : Nat) * 16777216) ((byteAt l (4 * k + 1) : Nat) * 65536)) ((byteAt l (4 * k + 2) : Nat) * 256)) (byteAt l (4 * k + 3) : Nat)

theorem val_tab : ∀ m : Fin 64, ∀ k : Fin 6, k.val < Hit.pc m.val → valAt (Sp.SL m.val) k.val = ((Sp.nd ((bitsL m.val).getD k.val 0).val : Nat) : Int) := by decide +kernel

/-- Nodes. -/
theorem nodes_in (n : Nat) (s : ByteArray) (w : World) :
    CallsIn Fence.wide n Yba.prog 21 #[.string s] w fun e w' => e = .returned (.func (.func 24) #[] #[.pointer (some ⟨w.heap.size, 0, none⟩)]) ∧ w' = w.alloc (.cells #[.string s] 30) := by
  refine callsIn_of_wp Yba.func21 rfl trivial ?_ rfl
  simp only [Yba.ntmps21, List.size_toArray, List.length_cons, List.length_nil, Nat.reduceAdd, Nat.reduceSub, Array.replicate_succ, Array.replicate_zero, List.push_toArray, List.append_toArray, List.nil_append, List.cons_append]
  gi_wp2
  go_ret
  exact ⟨rfl, rfl⟩

set_option maxRecDepth 100000 in
set_option maxHeartbeats 2000000 in
theorem nodes1_in {α : Type} (val : α → Fin 6) (xs : List α) (n : Nat) (hn : 1 ≤ n) (l Bs n₀ : Nat) (s : ByteArray) (m : Nat) (hm : m < 64) (hxs : xs.map val = bitsL m) (hs : s.data.toList = Sp.SL m) (hb : Bs < n₀) (J Jx : List α → World → Prop) (hJ : ∀ pre W nq, J pre W → J pre (W.drewN nq))
    (hY : ∀ pre x W, J pre W → pre.length < xs.length → YieldAt Fence.wide (n - 1) Yba.prog l #[.int .i64 (Sp.nd (val x).val : Nat)] W fun e W' =>
      (e = .returned (.bool true) ∧ J (pre ++ [x]) W' ∧ Below n₀ W W') ∨ (e = .returned (.bool false) ∧ Jx (pre ++ [x]) W'))
    (W : World) (hBs : W.cell? ⟨Bs, 0, none⟩ = some (.string s)) (h0 : J [] W) :
    CallsIn Fence.wide n Yba.prog 24 #[.func (.yield l) #[] #[], .pointer (some ⟨Bs, 0, none⟩)] W fun e W' => (∃ v, e = .returned v) ∧
      ((∃ ys, ys = xs ∧ J ys W') ∨ (∃ pre, pre <+: xs ∧ Jx pre W')) := by
  have hpc := Hit.pc_le ⟨m, hm⟩
  have hsz : s.size = 4 * Hit.pc m := by rw [← size_eq, hs]; exact Sp.len_tab ⟨m, hm⟩
  have hbl0 : (bitsL m).length = Hit.pc m := bitsL_len ⟨m, hm⟩
  have hbl : xs.length = Hit.pc m := by rw [← hbl0, ← hxs, List.length_map]
  simp only at hpc
  refine callsIn_of_wp Yba.func24 rfl trivial ?_ rfl
  simp only [Yba.ntmps24, List.size_toArray, List.length_cons, List.length_nil, Nat.reduceAdd, Nat.reduceSub, Array.replicate_succ, Array.replicate_zero, List.push_toArray, List.append_toArray, List.nil_append, List.cons_append]
  gi_wp2
  gi_loopw [3] (fun i wr => ∃ k : Nat, k ≤ Hit.pc m ∧ i = .int .i64 (4 * k : Nat) ∧ J (xs.take k) wr ∧ Below n₀ W wr)
    (fun i _ => 100 - (intOf i).toNat)
  case atStart => exact ⟨0, Nat.zero_le _, rfl, h0, Below.refl _ _⟩
  case round =>
    obtain ⟨k, hk, rfl, hJs, hnx⟩ := hrel
    have hcx : wr.cell? ⟨Bs, 0, none⟩ = some (.string s) := (hnx.cell (p := ⟨Bs, 0, none⟩) hb).trans hBs
    by_cases hlt : k < Hit.pc m
    · obtain ⟨x, hx⟩ : ∃ x, xs[k]'(by omega) = x := ⟨_, rfl⟩
      have htake : xs.take (k + 1) = xs.take k ++ [x] := by rw [List.take_succ_eq_append_getElem (by omega), hx]
      have hval : valAt s.data.toList k = ((Sp.nd (val x).val : Nat) : Int) := by
        rw [hs]
        have := val_tab ⟨m, hm⟩ ⟨k, by omega⟩ hlt
        simp only at this
        rw [this, ← hx, List.getD_eq_getElem?_getD, ← hxs, List.getElem?_map, List.getElem?_eq_getElem (by omega)]
        rfl
      have i0 := idx_run s (4 * k) (4 * (k : Int)) (by omega) (by omega)
      have i1 := idx_run s (4 * k + 1) (4 * (k : Int) + 1) (by omega) (by omega)
      have i2 := idx_run s (4 * k + 2) (4 * (k : Int) + 2) (by omega) (by omega)
      have i3 := idx_run s (4 * k + 3) (4 * (k : Int) + 3) (by omega) (by omega)
      have l0 := byteAt_lt s.data.toList (4 * k)
      have l1 := byteAt_lt s.data.toList (4 * k + 1)
      have l2 := byteAt_lt s.data.toList (4 * k + 2)
      have l3 := byteAt_lt s.data.toList (4 * k + 3)
      unfold valAt at hval
      generalize byteAt s.data.toList (4 * k) = b0 at *
      generalize byteAt s.data.toList (4 * k + 1) = b1 at *
      generalize byteAt s.data.toList (4 * k + 2) = b2 at *
      generalize byteAt s.data.toList (4 * k + 3) = b3 at *
      clear hx
      gi_wp2
      refine wpIn_wide.2 ?_
      go_quiet (fail)
      have hnx' : Below n₀ W (wr.drewN nq) := below_drewN hnx nq
      have hJs' := hJ _ _ nq hJs
      obtain ⟨fn, tmps, assign, body, hy, hR⟩ := hY _ x (wr.drewN nq) hJs' (by rw [List.length_take]; omega)
      clear hcx hJs hnx i0 i1 i2 i3
      gi_wp2
      refine hR.mono ?_
      rintro e W3 (⟨rfl, hJ3, hk3⟩ | ⟨rfl, hJx3⟩)
      · gi_wp2
        go_roundw
        case rel => exact ⟨k + 1, by omega, by go_num, by rw [htake]; exact hJ3, hnx'.trans hk3⟩
        case measure => simp [intOf]; omega
      · gi_wp2
        refine bodyPost_ret (results_none rfl _ _ _) rfl ?_
        exact ⟨⟨_, rfl⟩, .inr ⟨_, by rw [← htake]; exact List.take_prefix _ _, hJx3⟩⟩
    · obtain rfl : Hit.pc m = k := by omega
      gi_wp2
      go_end0
      exact ⟨⟨_, rfl⟩, .inl ⟨_, by rw [List.take_of_length_le (by omega)], hJs⟩⟩

/-- A node of the set m. -/
abbrev NodeOf (m : Nat) : Type := { i : Fin 6 // m.testBit i.val = true }

theorem bitsL_mem {m : Nat} {i : Fin 6} (h : i ∈ bitsL m) : m.testBit i.val = true := (List.mem_filter.1 h).2
theorem mem_bitsL {m : Nat} {i : Fin 6} (h : m.testBit i.val = true) : i ∈ bitsL m := List.mem_filter.2 ⟨(show ∀ i : Fin 6, i ∈ [0, 1, 2, 3, 4, 5] by decide) i, h⟩

/-- The nodes of m, each with its membership. -/
def bitsS (m : Nat) : List (NodeOf m) := (bitsL m).attachWith (fun i => m.testBit i.val = true) (fun _ h => bitsL_mem h)

theorem bitsS_map (m : Nat) : (bitsS m).map (fun x => x.1) = bitsL m := by
  unfold bitsS
  have h := List.attachWith_map_val (f := id) (l := bitsL m) (p := fun i => m.testBit i.val = true) (fun _ h => bitsL_mem h)
  rw [List.map_id] at h
  exact h

theorem mem_bitsS {m : Nat} (i : Fin 6) (h : m.testBit i.val = true) : ∃ x ∈ bitsS m, x.1 = i := by
  have : i ∈ (bitsS m).map (fun x => x.1) := by rw [bitsS_map]; exact mem_bitsL h
  obtain ⟨x, hx, e⟩ := List.mem_map.1 this
  exact ⟨x, hx, e⟩

/-- The iterator's contract. -/
theorem nodes_stops (n : Nat) (hn : 1 ≤ n) (Bs n₀ : Nat) (s : ByteArray) (m : Nat) (hm : m < 64) (hs : s.data.toList = Sp.SL m) (w : World) (hb : Bs < n₀) (hn₀ : n₀ ≤ w.heap.size) (hc : w.cell? ⟨Bs, 0, none⟩ = some (.string s)) :
    SeqStopsK Fence.wide n Yba.prog 24 #[.pointer (some ⟨Bs, 0, none⟩)] (fun x : NodeOf m => #[Value.int .i64 ((Sp.nd x.1.val : Nat) : Int)]) (Below n₀) (fun ys => ys = bitsS m) (fun pre => pre <+: bitsS m) (bitsS m).length w := fun l J Jx W hW hJ _ hY h0 => by
  have hc' := (hW.cell (p := ⟨Bs, 0, none⟩) (Nat.lt_of_lt_of_le hb hn₀)).trans hc
  exact nodes1_in (fun x : NodeOf m => x.1) (bitsS m) n hn l Bs n₀ s m hm (bitsS_map m) hs hb J Jx (fun pre W1 nq h => hJ pre W1 _ none h ⟨rfl, rfl, rfl, Nat.le_refl _, fun _ _ _ => rfl⟩ (fun r e => by cases e)) hY W hc' h0

end Go.Proofs.Ybulkavmc.Ns

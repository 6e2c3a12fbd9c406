/-
  LawS2341ASplit: the walk.
-/
import Derived.Test.YbulkavloDoorPrev
import Derived.OwnWalk
import Derived.Maps.AppendAt
namespace Go.Proofs.YbulkavloDoor.ASplit
open Go.RowKit

theorem info3 : (Ybad.prog.info? 3).map (fun i => (i.zero, i.size, i.bytes)) = some (some (.int .i64 0), 1, 8) := by kernel_rfl

/-- The first k numbers of h, as cells. -/
def ints (h : Nat → Nat) (k : Nat) : List Value := (List.range k).map fun j => Value.int .i64 ((h j : Nat) : Int)

theorem ints_succ (h : Nat → Nat) (k : Nat) : ints h (k + 1) = ints h k ++ [Value.int .i64 ((h k : Nat) : Int)] := by
  simp [ints, List.range_succ]

theorem ir_of_owns {w : World} {base g L cap : Nat} {h : Nat → Nat} (ho : w.ownsRow base 3 1 (.slice (some ⟨g, 0, none⟩) L cap) L (ints h L)) : IR w g L h := fun j hj => by
  rw [ho.cellAt j (by omega)]
  simp [ints, hj]

theorem Tab.upd {w w' : World} {S : List Nat} (h : Tab w) (hu : Upd S w w') (h0 : 0 ∉ S) : Tab w' := fun j hj =>
  (World.cell?_of_block (w := w) (a := ⟨0, j, none⟩) (hu.block 0 h0)).trans (h j hj)

theorem wide (a : Nat) (a0 : Option Addr) (len cap : Nat) (w : World) (h : 1024 < len) :
    Calls Ybad.prog 3 #[.int .u16 a, .slice a0 len cap] w fun e w' => e = .returned (.bool true) ∧ Below w.heap.size w w' := by
  go_enter Ybad.func3, Ybad.ntmps3
  go_wp2_with fail
  go_ret
  exact ⟨rfl, Below.refl _ _⟩

theorem make_own (len : Nat) (hl : len ≤ 1024) (w : World) : (Instr.makeSlice 24 (.int .i64 0) (.int .i64 (len : Int))).run Ybad.prog w =
    .ok (.slice (some ⟨w.heap.size, 0, none⟩) 0 len) (w.alloc (.cells (madeCells (Value.int .i64 0).cells (len * 1)) 3)) := by
  obtain ⟨i0, hi, hz0, hz1, hz2⟩ := info_parts info3
  have := run_make (P := Ybad.prog) w 24 3 i0 (.int .i64 0) Ybad.underlying24 hi hz0 .i64 .i64 0 len (by omega) (by omega) (by rw [hz2]; omega) (by omega)
  rw [this, hz1]
  simp

/-- The blocks' sizes. -/
def sizes (zn : Nat → Nat) (len n : Nat) (k : Nat) : Nat := if len = 0 then (if k = 0 then n + (1 - n) else 1) else zn (k % len) % 7 + 1

theorem sizes_pos (zn : Nat → Nat) (len n k : Nat) : 1 ≤ sizes zn len n k := by
  unfold sizes
  split
  · split <;> omega
  · omega

theorem sizes_le (zn : Nat → Nat) (len n k : Nat) (hn : n < 600) : sizes zn len n k ≤ 600 := by
  unfold sizes
  split
  · split <;> omega
  · have := Nat.mod_lt (zn (k % len)) (show 0 < 7 by decide); omega

theorem sizes_none (zn : Nat → Nat) (n k : Nat) (h : Pl.off (sizes zn 0 n) k < n) : n - Pl.off (sizes zn 0 n) k = sizes zn 0 n k := by
  cases k with
  | zero => simp only [Pl.off] at h ⊢; simp [sizes]; omega
  | succ k =>
    have := Pl.off_mono (sizes zn 0 n) (sizes_pos zn 0 n) (show 1 ≤ k + 1 by omega)
    have e : Pl.off (sizes zn 0 n) 1 = n + (1 - n) := by simp [Pl.off, sizes]
    omega

theorem sizes_some (zn : Nat → Nat) (len n k : Nat) (h : 0 < len) : sizes zn len n k = zn (k % len) % 7 + 1 := by
  unfold sizes; rw [if_neg (by omega)]

set_option maxHeartbeats 1000000 in
theorem walk (a : Nat) (a0 : Option Addr) (len cap : Nat) (zn : Nat → Nat) (w : World) (ha : a < 65536) (hl : len ≤ 1024) (hT : Tab w) (hB : IsBytes w a0 len zn) :
    Calls Ybad.prog 3 #[.int .u16 a, .slice a0 len cap] w fun e w' => e = .returned (.bool true) ∧ Below w.heap.size w w' := by
  obtain ⟨n, hn⟩ : ∃ n, a % 600 = n := ⟨_, rfl⟩
  have hn6 : n < 600 := by omega
  have hn' : (a : Int) % 600 = (n : Int) := by omega
  clear hn
  have HZ : Hid (∀ j, zn j < 256) := hB.1
  have HC : Hid (∀ k, k < len → ∃ b o, a0 = some ⟨b, o, none⟩ ∧ w.cell? ⟨b, o + k, none⟩ = some (.int .u8 ((zn k : Nat) : Int))) := hB.2
  have Hnone : Hid (len = 0 → ∀ k, Pl.off (sizes zn len n) k < n → (n : Int) - (Pl.off (sizes zn len n) k : Nat) = ((sizes zn len n k : Nat) : Int)) := fun e k hk => by
    subst e
    have := sizes_none zn n k hk
    omega
  have Hsome : Hid (0 < len → ∀ k, ((zn (k % len) : Nat) : Int) % 7 + 1 = ((sizes zn len n k : Nat) : Int)) := fun h k => by
    rw [sizes_some zn len n k h]; omega
  have Hf1 : Hid (∀ j, 1 ≤ sizes zn len n j) := sizes_pos zn len n
  have Hf6 : Hid (∀ j, sizes zn len n j ≤ 600) := fun j => sizes_le zn len n j hn6
  clear hB
  generalize sizes zn len n = f at *
  have hm := make_own n (by omega)
  have hz1 : (madeCells (Value.int .i64 0).cells (n * 1)).size = n := by rw [size_madeCells]; omega
  generalize madeCells (Value.int .i64 0).cells (n * 1) = cs at hm hz1
  have O0 : Hid ((w.alloc (.cells cs 3)).ownsRow w.heap.size 3 1 (.slice (some ⟨w.heap.size, 0, none⟩) 0 n) 0 []) := World.ownsRow_made w cs n (Nat.le_refl _) (by unfold maxLen; omega) (by omega)
  clear hz1
  go_enter Ybad.func3, Ybad.ntmps3
  go_wp2_with fail
  rw [hn']
  clear hn'
  go_loopw [6, 7, 8] (fun v6 v7 v8 wr => ∃ k : Nat, (∀ j, j < k → Pl.off f j < n) ∧ Pl.off f k ≤ 1300 ∧ v6 = .slice (some ⟨w.heap.size, 0, none⟩) k n ∧ v7 = .int .i64 (Pl.off f k : Nat) ∧ v8 = .int .i64 k ∧
      wr.ownsRow w.heap.size 3 1 (.slice (some ⟨w.heap.size, 0, none⟩) k n) k (ints (Pl.off f) k) ∧ Below w.heap.size w wr)
    (fun _ v7 _ _ => n - (intOf v7).toNat)
  case atStart => exact ⟨0, fun j hj => by omega, by simp [Pl.off], rfl, rfl, rfl, O0.out, (Below.refl _ w).alloc (Nat.le_refl _) _⟩
  case round =>
    obtain ⟨k, hk, hk13, rfl, rfl, rfl, ho0, hb⟩ := hrel
    have HK : Hid (∀ j, j < k → Pl.off f j < n) := hk; clear hk
    have hkk : k ≤ Pl.off f k := by have := Pl.off_add f Hf1.out 0 k; simp [Pl.off] at this; exact this
    have hfk1 := Hf1.out k
    have hfk6 := Hf6.out k
    by_cases hlt : Pl.off f k < n
    · have HK' : Hid (∀ j, j < k + 1 → Pl.off f j < n) := fun j hj => by
        by_cases e : j = k
        · subst e; exact hlt
        · exact HK.out j (by omega)
      obtain ⟨i0, hi, hz0, hz1, hz2⟩ := info_parts info3
      by_cases hle : len = 0
      · have HST : Hid ((n : Int) - (Pl.off f k : Nat) = ((f k : Nat) : Int)) := Hnone.out hle k hlt
        subst hle
        go_wp2_with (at_builtin; refine wpList_append_fits _ rfl (.tmp 29) (.tmp 31) 24 rfl w.heap.size 3 i0 1 Ybad.underlying24 hi hz1 w.heap.size k n _ rfl (ho0.alloc _) ⟨wr.heap.size, 0, none⟩ 1 1 [.int .i64 ((Pl.off f k : Nat) : Int)] rfl rfl (cell_one_new _ _ _) (ints_oneCell .i64 [((Pl.off f k : Nat) : Int)]) (by omega) ?_; intro w1 hown1 hgrow1; rw [← ints_succ] at hown1)
        go_roundw
        case rel =>
          refine ⟨_, _, _, ⟨k + 1, HK'.out, by simp only [Pl.off]; omega, rfl, rfl, rfl, hown1, ?_⟩, rfl, congrArg (Value.int .i64) (by have := HST.out; simp only [Pl.off]; omega), by go_num⟩
          exact (hb.alloc hb.size _).grown hgrow1 (by have := hb.size; simp; omega) (fun k e => by cases e; exact Nat.le_refl _)
        case measure => have := HST.out; simp [intOf]; omega
      · have hst := Hsome.out (by omega) k
        have hkl : k % len < len := Nat.mod_lt _ (by omega)
        obtain ⟨b, o, rfl, hcell⟩ := HC.out (k % len) hkl
        have hcx := cell_later hb hcell
        have hbl : b < w.heap.size := World.block_lt_of_cell? _ _ hcell
        have hzk := HZ.out (k % len)
        clear hcell
        obtain ⟨q, hq⟩ : ∃ q, k % len = q := ⟨_, rfl⟩
        have hq' : (k : Int) % (len : Int) = (q : Int) := by rw [← hq]; simp
        rw [hq] at hst hcx hzk hkl
        clear hq
        have hl0 : (0 : Int) < (len : Int) := by omega
        go_wp2_with (at_builtin; refine wpList_append_fits _ rfl (.tmp 29) (.tmp 31) 24 rfl w.heap.size 3 i0 1 Ybad.underlying24 hi hz1 w.heap.size k n _ rfl (ho0.alloc _) ⟨wr.heap.size, 0, none⟩ 1 1 [.int .i64 ((Pl.off f k : Nat) : Int)] rfl rfl (cell_one_new _ _ _) (ints_oneCell .i64 [((Pl.off f k : Nat) : Int)]) (by omega) ?_; intro w1 hown1 hgrow1; rw [← ints_succ] at hown1; have hcx1 : w1.cell? ⟨b, o + q, none⟩ = some (.int .u8 ((zn q : Nat) : Int)) := (hgrow1.cell (cell_later ((Below.refl _ wr).alloc (Nat.le_refl _) _) hcx) (by simp; omega)))
        go_roundw
        case rel =>
          refine ⟨k + 1, HK'.out, by simp only [Pl.off]; omega, rfl, congrArg (Value.int .i64) (by simp only [Pl.off]; omega), by go_num, hown1, ?_⟩
          exact (hb.alloc hb.size _).grown hgrow1 (by have := hb.size; simp; omega) (fun k e => by cases e; exact Nat.le_refl _)
        case measure => simp [intOf]; omega
    · have hlt0 := (ho0.lt _ rfl).2
      have ir0 := ir_of_owns ho0
      clear ho0 O0 hm HC Hnone Hsome HZ
      have hT1 := hT.below hb
      go_wp2_with fail
      refine (unsplit_any n wr (by omega)).mono ?_
      rintro e W2 ⟨rfl, ⟨ns0, hst0⟩, hb2, hsz2⟩
      have ir0' := ir0.below hb2
      have hT2 := hT1.below hb2
      have hbW2 : Below w.heap.size w W2 := hb.trans (hb2.mono hb.size)
      have hle := hb.size
      have hF0 : 0 < w.heap.size := World.block_lt_of_cell? _ _ (hT 0 (by decide))
      clear ir0 hT1 hb2 hT hb
      generalize wr.heap.size = F at hst0 hsz2 hlt0 hle ⊢
      obtain ⟨L, hL⟩ : ∃ L, L = k := ⟨_, rfl⟩
      subst hL
      go_wp2_with fail
      go_loopw [58] (fun v w3 => ∃ k : Nat, k ≤ L ∧ v = .int .i64 k ∧ (∃ ns, St w3 (F + 2) F (F + 1) n (Pl.begun f n (n / 64 + 1) k) ns) ∧ Upd [F, F + 1] W2 w3) (fun v _ => L - (intOf v).toNat)
      case atStart => exact ⟨0, Nat.zero_le _, rfl, ⟨ns0, hst0⟩, Upd.refl _ _⟩
      case round =>
        obtain ⟨k, hk, rfl, ⟨ns, hst⟩, hu⟩ := hrel
        have ir0 := ir0'.upd hu (by simp; omega)
        by_cases hltk : k < L
        · have hck := ir0 k hltk
          have hlk := HK.out k hltk
          go_wp2_with fail
          refine (begin_any (F + 2) F (F + 1) n _ (Pl.off f k) _ ns _ hst rfl hlk (by omega)).mono ?_
          rintro e w4 ⟨rfl, hns4, hu4⟩
          go_wp2_with fail
          go_roundw
          case rel => exact ⟨k + 1, by omega, by go_num, hns4, hu.trans hu4⟩
          case measure => simp [intOf]; omega
        · obtain rfl : L = k := by omega
          have hTw : Tab wr := Tab.upd hT2 hu (by simp; omega)
          have hbw : Below w.heap.size w wr := hbW2.trans (hu.below (by simp; omega))
          have HH : Hid (∀ x, Pl.has (Pl.begun f n (n / 64 + 1) L) x = true ↔ x = n ∨ ∃ j, j < L ∧ x = Pl.off f j) := Pl.has_begun f n (n / 64 + 1) (by omega) L (fun j hj => Nat.le_of_lt (HK.out j hj))
          have HN : Hid (Pl.has (Pl.begun f n (n / 64 + 1) L) n = true) := (HH.out n).2 (.inl rfl)
          clear ir0' hT2 hst0 hu hbW2
          obtain ⟨W3, hW3⟩ : ∃ W3, W3 = wr := ⟨_, rfl⟩
          subst hW3
          generalize Pl.begun f n (n / 64 + 1) L = ws at *
          go_wp2_with fail
          go_loop [13] (fun v => ∃ i : Nat, i ≤ n ∧ v = .int .i64 i) (fun v => n - (intOf v).toNat)
          case atStart => exact ⟨0, Nat.zero_le _, rfl⟩
          case round =>
            obtain ⟨i, hi, rfl⟩ := hrel
            by_cases hin : i < n
            · have hL1 : 1 ≤ L := by
                apply Nat.pos_of_ne_zero
                intro e; subst e
                simp [Pl.off] at hlt
                omega
              have H0 : Hid (Pl.has ws 0 = true) := (HH.out 0).2 (.inr ⟨0, by omega, rfl⟩)
              have ZP : Hid (∀ i r p, i < n → Pl.ZzIs (Pl.off f) L n i r → Pl.PrevIs ws i p → p = r ∧ r < n) := fun i r p =>
                Pl.zz_prev ws (Pl.off f) L n hL1 rfl (fun a b hab _ => Pl.off_lt f Hf1.out hab) HK.out HH.out i r p
              go_wp2_with fail
              refine (prev2_any (F + 2) F (F + 1) n i ws ns _ hst hTw hin (by omega) HN.out H0.out).mono ?_
              rintro e w2 ⟨⟨p, q, rfl, hp, hq⟩, rfl⟩
              have HP : Hid (Pl.PrevIs ws i p) := hp; clear hp
              have HQ : Hid (Pl.PrevIs ws p q) := hq; clear hq
              go_wp2_with fail
              refine (zz_any _ L n n i (Pl.off f) _ ir0 hin (by omega) (by omega) hL1 rfl HK.out).mono ?_
              rintro e w2 ⟨⟨r, rfl, hz⟩, rfl⟩
              obtain ⟨rfl, hpn⟩ := ZP.out i r p hin hz HP.out
              clear hz
              go_wp2_with fail
              refine (zz_any _ L n n p (Pl.off f) _ ir0 hpn (by omega) (by omega) hL1 rfl HK.out).mono ?_
              rintro e w2 ⟨⟨r, rfl, hz⟩, rfl⟩
              obtain ⟨rfl, hqn⟩ := ZP.out p r q hpn hz HQ.out
              clear hz
              go_wp2_with fail
              go_round
              case rel => exact ⟨i + 1, by omega, by go_num⟩
              case measure => simp [intOf]; omega
            · go_wp2_with fail
              go_ret
              exact ⟨rfl, hbw⟩

end Go.Proofs.YbulkavloDoor.ASplit

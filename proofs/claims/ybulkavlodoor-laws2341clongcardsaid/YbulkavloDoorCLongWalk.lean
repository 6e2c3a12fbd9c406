/-
  LawS2341CLong: the walk.
-/
import Derived.Test.YbulkavloDoorSplit
import Derived.Test.YbulkavloDoorPlainLong
import Derived.OwnWalk
import Derived.Maps.AppendAt
namespace Go.Proofs.YbulkavloDoor.CLong
open Go.RowKit

theorem info3 : (Ybad.prog.info? 3).map (fun i => (i.zero, i.size, i.bytes)) = some (some (.int .i64 0), 1, 8) := by kernel_rfl

/-- The first k numbers of h, as cells. -/
def ints (h : Nat → Nat) (k : Nat) : List Value := (List.range k).map fun j => Value.int .i64 ((h j : Nat) : Int)

theorem ints_succ (h : Nat → Nat) (k : Nat) : ints h (k + 1) = ints h k ++ [Value.int .i64 ((h k : Nat) : Int)] := by
  simp [ints, List.range_succ]

/-- Block g begins with the numbers h 0 .. h (L - 1). -/
def IR (w : World) (g L : Nat) (h : Nat → Nat) : Prop := ∀ j, j < L → w.cell? ⟨g, j, none⟩ = some (.int .i64 ((h j : Nat) : Int))

theorem ir_of_owns {w : World} {base g L cap : Nat} {h : Nat → Nat} (ho : w.ownsRow base 3 1 (.slice (some ⟨g, 0, none⟩) L cap) L (ints h L)) : IR w g L h := fun j hj => by
  rw [ho.cellAt j (by omega)]
  simp [ints, hj]

theorem IR.below {w w' : World} {g L : Nat} {h : Nat → Nat} (hr : IR w g L h) (hb : Below w.heap.size w w') : IR w' g L h := fun j hj => cell_later hb (hr j hj)
theorem IR.upd {w w' : World} {S : List Nat} {g L : Nat} {h : Nat → Nat} (hr : IR w g L h) (hb : Upd S w w') (hg : g ∉ S) : IR w' g L h := fun j hj =>
  (World.cell?_of_block (w := w) (a := ⟨g, j, none⟩) (hb.block g hg)).trans (hr j hj)

theorem Tab.upd {w w' : World} {S : List Nat} (h : Tab w) (hu : Upd S w w') (h0 : 0 ∉ S) : Tab w' := fun j hj =>
  (World.cell?_of_block (w := w) (a := ⟨0, j, none⟩) (hu.block 0 h0)).trans (h j hj)

theorem wide (a0 : Option Addr) (len cap : Nat) (w : World) (h : 1024 < len) :
    Calls Ybad.prog 5 #[.slice a0 len cap] w fun e w' => e = .returned (.bool true) ∧ Below w.heap.size w w' := by
  go_enter Ybad.func5, Ybad.ntmps5
  go_wp2_with fail
  go_ret
  exact ⟨rfl, Below.refl _ _⟩

theorem make_own (len : Nat) (hl : len ≤ 1024) (w : World) : (Instr.makeSlice 24 (.int .i64 0) (.int .i64 (len : Int))).run Ybad.prog w =
    .ok (.slice (some ⟨w.heap.size, 0, none⟩) 0 len) (w.alloc (.cells (madeCells (Value.int .i64 0).cells (len * 1)) 3)) := by
  obtain ⟨i0, hi, hz0, hz1, hz2⟩ := info_parts info3
  have := run_make (P := Ybad.prog) w 24 3 i0 (.int .i64 0) Ybad.underlying24 hi hz0 .i64 .i64 0 len (by omega) (by omega) (by rw [hz2]; omega) (by omega)
  rw [this, hz1]
  simp

set_option maxHeartbeats 1000000 in
theorem walk (a0 : Option Addr) (len cap : Nat) (zn : Nat → Nat) (w : World) (hl : len ≤ 1024) (hz : ∀ j, zn j < 256) (hT : Tab w)
    (hc : ∀ k, k < len → ∃ b o, a0 = some ⟨b, o, none⟩ ∧ w.cell? ⟨b, o + k, none⟩ = some (.int .u8 ((zn k : Nat) : Int))) :
    Calls Ybad.prog 5 #[.slice a0 len cap] w fun e w' => e = .returned (.bool true) ∧ Below w.heap.size w w' := by
  obtain ⟨f, hf⟩ : ∃ f : Nat → Nat, f = fun j => zn j % 3 + 1 := ⟨_, rfl⟩
  have hf1 : ∀ j, 1 ≤ f j := fun j => by rw [hf]; simp
  have hf3 : ∀ j, f j ≤ 3 := fun j => by rw [hf]; have := Nat.mod_lt (zn j) (show 0 < 3 by decide); simp only; omega
  have Hf1 : Hid (∀ j, 1 ≤ f j) := hf1
  have Hf3 : Hid (∀ j, f j ≤ 3) := hf3
  have Hf : Hid (∀ j, ((zn j : Nat) : Int) % 3 + 1 = ((f j : Nat) : Int)) := fun j => by rw [hf]; simp
  have HC : Hid (∀ k, k < len → ∃ b o, a0 = some ⟨b, o, none⟩ ∧ w.cell? ⟨b, o + k, none⟩ = some (.int .u8 ((zn k : Nat) : Int))) := hc
  have HZ : Hid (∀ j, zn j < 256) := hz
  clear hf hf1 hf3 hc hz
  have hm := make_own len hl
  have hz1 : (madeCells (Value.int .i64 0).cells (len * 1)).size = len := by rw [size_madeCells]; omega
  generalize madeCells (Value.int .i64 0).cells (len * 1) = cs at hm hz1
  have own0 : (w.alloc (.cells cs 3)).ownsRow w.heap.size 3 1 (.slice (some ⟨w.heap.size, 0, none⟩) 0 len) 0 [] := World.ownsRow_made w cs len (Nat.le_refl _) (by unfold maxLen; omega) (by omega)
  have own1 : ((w.alloc (.cells cs 3)).alloc (.cells cs 3)).ownsRow w.heap.size 3 1 (.slice (some ⟨w.heap.size + 1, 0, none⟩) 0 len) 0 [] := by
    have := World.ownsRow_made (base := w.heap.size) (size := 1) (e := 3) (w.alloc (.cells cs 3)) cs len (by simp) (by unfold maxLen; omega) (by omega)
    rw [World.size_alloc] at this
    exact this
  have O0 : Hid (((w.alloc (.cells cs 3)).alloc (.cells cs 3)).ownsRow w.heap.size 3 1 (.slice (some ⟨w.heap.size, 0, none⟩) 0 len) 0 []) := own0.alloc _
  have O1 : Hid (((w.alloc (.cells cs 3)).alloc (.cells cs 3)).ownsRow w.heap.size 3 1 (.slice (some ⟨w.heap.size + 1, 0, none⟩) 0 len) 0 []) := own1
  clear own0 own1 hz1
  go_enter Ybad.func5, Ybad.ntmps5
  go_wp2_with fail
  go_loopw [3, 4, 5, 27] (fun v3 v4 v5 v27 wr => ∃ k : Nat, k ≤ len ∧ v3 = .slice (some ⟨w.heap.size, 0, none⟩) k len ∧ v4 = .slice (some ⟨w.heap.size + 1, 0, none⟩) k len ∧ v5 = .int .i64 (Pl.off f k : Nat) ∧ v27 = .int .i64 k ∧
      wr.ownsRow w.heap.size 3 1 (.slice (some ⟨w.heap.size, 0, none⟩) k len) k (ints (Pl.off f) k) ∧ wr.ownsRow w.heap.size 3 1 (.slice (some ⟨w.heap.size + 1, 0, none⟩) k len) k (ints f k) ∧ Below w.heap.size w wr)
    (fun _ _ _ i _ => len - (intOf i).toNat)
  case atStart => exact ⟨0, Nat.zero_le _, rfl, rfl, rfl, rfl, O0.out, O1.out, ((Below.refl _ w).alloc (Nat.le_refl _) _).alloc (by simp) _⟩
  case round =>
    obtain ⟨k, hk, rfl, rfl, rfl, rfl, ho0, ho1, hb⟩ := hrel
    have hoff := Pl.off_le f 3 Hf3.out k
    by_cases hlt : k < len
    · obtain ⟨b, o, rfl, hcell⟩ := HC.out k hlt
      have hcx := cell_later hb hcell
      have hzk := HZ.out k
      have hfk := Hf.out k
      have hfk3 := Hf3.out k
      clear hcell
      obtain ⟨i0, hi, hz0, hz1, hz2⟩ := info_parts info3
      go_wp2_with (first
        | (at_builtin; refine wpList_append_fits _ rfl (.tmp 35) (.tmp 37) 24 rfl w.heap.size 3 i0 1 Ybad.underlying24 hi hz1 w.heap.size k len _ rfl (ho0.alloc _) ⟨wr.heap.size, 0, none⟩ 1 1 [.int .i64 ((Pl.off f k : Nat) : Int)] rfl rfl (cell_one_new _ _ _) (ints_oneCell .i64 [((Pl.off f k : Nat) : Int)]) (by omega) ?_; intro w1 hown1 hgrow1; have ho1' := (ho1.alloc _).kept hgrow1 (.inr (by simp [Value.ownBlock])))
        | (at_builtin; refine wpList_append_fits _ rfl (.tmp 39) (.tmp 41) 24 rfl w.heap.size 3 i0 1 Ybad.underlying24 hi hz1 (w.heap.size + 1) k len _ rfl (ho1'.alloc _) ⟨w1.heap.size, 0, none⟩ 1 1 [.int .i64 ((f k : Nat) : Int)] rfl rfl (cell_one_new _ _ _) (ints_oneCell .i64 [((f k : Nat) : Int)]) (by omega) ?_; intro w2 hown2 hgrow2; have hown1' := (hown1.alloc _).kept hgrow2 (.inr (by simp [Value.ownBlock])); rw [← ints_succ] at hown1' hown2))
      go_roundw
      case rel =>
        refine ⟨k + 1, by omega, rfl, rfl, by simp [Pl.off], by go_num, hown1', hown2, ?_⟩
        have b1 := (hb.alloc hb.size (.cells #[.int .i64 ((Pl.off f k : Nat) : Int)] 3)).grown hgrow1 (by have := hb.size; simp; omega) (fun k e => by cases e; exact Nat.le_refl _)
        exact (b1.alloc b1.size _).grown hgrow2 (by have := b1.size; simp; omega) (fun k e => by cases e; omega)
      case measure => simp [intOf]; omega
    · obtain rfl : len = k := by omega
      have hlt1 := (ho1.lt _ rfl).2
      have hlt0 := (ho0.lt _ rfl).2
      have ir0 := ir_of_owns ho0
      have ir1 := ir_of_owns ho1
      clear ho0 ho1 O0 O1 hm HC
      have hT1 := hT.below hb
      go_wp2_with fail
      refine (unsplit_any (Pl.off f len) wr (by omega)).mono ?_
      rintro e W2 ⟨rfl, ⟨ns0, hst0⟩, hb2, hsz2⟩
      have ir0' := ir0.below hb2
      have ir1' := ir1.below hb2
      have hT2 := hT1.below hb2
      have hbW2 : Below w.heap.size w W2 := hb.trans (hb2.mono hb.size)
      have hle := hb.size
      clear ir0 ir1 hT1 hb2 hT hb
      generalize wr.heap.size = F at hst0 hsz2 hlt1 hlt0 hle ⊢
      go_wp2_with fail
      go_loopw [51] (fun v w3 => ∃ k : Nat, k ≤ len ∧ v = .int .i64 k ∧ (∃ ns, St w3 (F + 2) F (F + 1) (Pl.off f len) (Pl.begun f (Pl.off f len) (Pl.off f len / 64 + 1) k) ns) ∧ Upd [F, F + 1] W2 w3) (fun v _ => len - (intOf v).toNat)
      case atStart => exact ⟨0, Nat.zero_le _, rfl, ⟨ns0, hst0⟩, Upd.refl _ _⟩
      case round =>
        obtain ⟨k, hk, rfl, ⟨ns, hst⟩, hu⟩ := hrel
        have ir0 := ir0'.upd hu (by simp; omega)
        have ir1 := ir1'.upd hu (by simp; omega)
        by_cases hlt : k < len
        · have hck := ir0 k hlt
          have hlk := Pl.off_lt f Hf1.out hlt
          go_wp2_with fail
          refine (begin_any (F + 2) F (F + 1) (Pl.off f len) _ (Pl.off f k) _ ns _ hst rfl hlk (by omega)).mono ?_
          rintro e w4 ⟨rfl, hns4, hu4⟩
          go_wp2_with fail
          go_roundw
          case rel => exact ⟨k + 1, by omega, by go_num, hns4, hu.trans hu4⟩
          case measure => simp [intOf]; omega
        · obtain rfl : len = k := by omega
          have hTw : Tab wr := Tab.upd hT2 hu (by simp; omega)
          have hbw : Below w.heap.size w wr := hbW2.trans (hu.below (by simp; omega))
          have hnext := Pl.has_next f Hf1.out len (Pl.off f len / 64 + 1) (by omega)
          have HN : Hid (Pl.has (Pl.begun f (Pl.off f len) (Pl.off f len / 64 + 1) len) (Pl.off f len + 1) = false) := hnext
          have HW : Hid (∀ i J, i ≤ J → J ≤ len → (∀ t, i ≤ t → t < J → f t = 1) → (J = len ∨ 2 ≤ f J) → Pl.IsPast (Pl.begun f (Pl.off f len) (Pl.off f len / 64 + 1) len) (Pl.off f len) (Pl.off f i) (Pl.off f J)) :=
            fun i J => Pl.past_want f Hf1.out len (Pl.off f len / 64 + 1) (by omega) i J
          clear ir0' ir1' hT2 hnext hst0 hu hbW2
          obtain ⟨W3, hW3⟩ : ∃ W3, W3 = wr := ⟨_, rfl⟩
          subst hW3
          go_wp2_with fail
          go_loopw [61] (fun v w3 => ∃ k : Nat, k ≤ len ∧ v = .int .i64 k ∧ Upd [] W3 w3) (fun v _ => len - (intOf v).toNat)
          case atStart => exact ⟨0, Nat.zero_le _, rfl, Upd.refl _ _⟩
          case round =>
            obtain ⟨i, hi, rfl, hu⟩ := hrel
            have jr0 := ir0.upd hu (by simp)
            have jr1 := ir1.upd hu (by simp)
            have hoi := Pl.off_mono f Hf1.out hi
            by_cases hlt : i < len
            · have hci := jr0 i hlt
              go_wp2_with fail
              go_loop [14, 15] (fun v14 v15 => ∃ j : Nat, i ≤ j ∧ j ≤ len ∧ v15 = .int .i64 j ∧ v14 = .int .i64 (Pl.off f len : Nat) ∧ ∀ t, i ≤ t → t < j → f t = 1) (fun _ v => len - (intOf v).toNat)
              case atStart => exact ⟨i, Nat.le_refl _, hi, rfl, rfl, fun t h1 h2 => by omega⟩
              case round =>
                obtain ⟨j, hij, hjl, rfl, rfl, hone⟩ := hrel
                have HO : Hid (∀ t, i ≤ t → t < j → f t = 1) := hone; clear hone
                have hfj := Hf1.out j
                by_cases hjl' : j < len
                · have hcj := jr1 j hjl'
                  have hcj0 := jr0 j hjl'
                  by_cases hf2 : 2 ≤ f j
                  · go_wp2_with fail
                    refine (past_any (F + 2) F (F + 1) (Pl.off f len) (Pl.off f i) _ ns _ (hst.upd hu (by simp) (by simp) (by simp)) (Tab.upd hTw hu (by simp)) hoi (by omega) HN.out).mono ?_
                    rintro e w4 ⟨r, rfl, hp, hu4⟩
                    obtain rfl := (HW.out i j hij hjl HO.out (.inr hf2)).unique hp
                    clear hp
                    go_wp2_with fail
                    go_roundw
                    case rel => exact ⟨i + 1, by omega, by go_num, hu.trans hu4⟩
                    case measure => simp [intOf]; omega
                  · go_wp2_with fail
                    go_round
                    case rel =>
                      refine ⟨j + 1, by omega, by omega, by go_num, rfl, fun t h1 h2 => ?_⟩
                      by_cases htj : t = j
                      · subst htj; omega
                      · exact HO.out t h1 (by omega)
                    case measure => simp [intOf]; omega
                · obtain rfl : len = j := by omega
                  go_wp2_with fail
                  refine (past_any (F + 2) F (F + 1) (Pl.off f len) (Pl.off f i) _ ns _ (hst.upd hu (by simp) (by simp) (by simp)) (Tab.upd hTw hu (by simp)) hoi (by omega) HN.out).mono ?_
                  rintro e w4 ⟨r, rfl, hp, hu4⟩
                  obtain rfl := (HW.out i len hij hjl HO.out (.inl rfl)).unique hp
                  clear hp
                  go_wp2_with fail
                  go_roundw
                  case rel => exact ⟨i + 1, by omega, by go_num, hu.trans hu4⟩
                  case measure => simp [intOf]; omega
            · go_wp2_with fail
              refine (past_any (F + 2) F (F + 1) (Pl.off f len) (Pl.off f len) _ ns _ (hst.upd hu (by simp) (by simp) (by simp)) (Tab.upd hTw hu (by simp)) (Nat.le_refl _) (by omega) HN.out).mono ?_
              rintro e w4 ⟨r, rfl, hp, hu4⟩
              obtain rfl := (HW.out len len (Nat.le_refl _) (Nat.le_refl _) (fun t h1 h2 => by omega) (.inl rfl)).unique hp
              clear hp
              have hfin : Hid (Below w.heap.size w w4) := hbw.trans ((hu.trans hu4).below (by simp))
              go_wp2_with fail
              go_ret
              exact ⟨ret_bool (by simp), hfin.out⟩

end Go.Proofs.YbulkavloDoor.CLong

/-
  zzs2342csets, zzs2342cbrute: the walks.
-/
import Derived.Test.YbulkavmcSets
namespace Go.Proofs.Ybulkavmc.Ns
open Go.RowKit

/-- The masks, six bits of each. -/
def msk (zn : Nat → Nat) (k : Nat) : List Nat := (List.range k).map fun j => zn j % 64

theorem msk_len (zn : Nat → Nat) (k : Nat) : (msk zn k).length = k := by simp [msk]
theorem msk_lt (zn : Nat → Nat) (k : Nat) : ∀ s ∈ msk zn k, s < 64 := fun s hs => by
  obtain ⟨j, _, rfl⟩ := List.mem_map.1 hs
  exact Nat.mod_lt _ (by decide)
theorem msk_getD (zn : Nat → Nat) (k j : Nat) (hj : j < k) : (msk zn k).getD j 0 = zn j % 64 := by
  simp [msk, List.getD_eq_getElem?_getD, hj]
theorem msk_mem (zn : Nat → Nat) (k s : Nat) : s ∈ msk zn k ↔ ∃ j, j < k ∧ s = zn j % 64 := by
  simp only [msk, List.mem_map, List.mem_range]
  exact ⟨fun ⟨j, h, e⟩ => ⟨j, h, e.symm⟩, fun ⟨j, h, e⟩ => ⟨j, h, e.symm⟩⟩

def strs (ms : List Nat) : List Value := ms.map fun m => Value.string (str m)

theorem msk_succ (zn : Nat → Nat) (k : Nat) : strs (msk zn (k + 1)) = strs (msk zn k) ++ [Value.string (str (zn k % 64))] := by
  simp [strs, msk, List.range_succ]

theorem info30 : (Yba.prog.info? 30).map (fun i => (i.zero, i.size, i.bytes)) = some (some (.string ByteArray.empty), 1, 16) := by kernel_rfl

theorem make_sets (len : Nat) (hl : len ≤ 1024) (w : World) : (Instr.makeSlice 27 (.int .i64 0) (.int .i64 (len : Int))).run Yba.prog w =
    .ok (.slice (some ⟨w.heap.size, 0, none⟩) 0 len) (w.alloc (.cells (madeCells (Value.string ByteArray.empty).cells (len * 1)) 30)) := by
  obtain ⟨i0, hi, hz0, hz1, hz2⟩ := info_parts info30
  have := run_make (P := Yba.prog) w 27 30 i0 (.string ByteArray.empty) Yba.underlying27 hi hz0 .i64 .i64 0 len (by omega) (by omega) (by rw [hz2]; omega) (by omega)
  rw [this, hz1]
  simp

set_option maxHeartbeats 1000000 in
theorem csets_any (a0 : Option Addr) (len cap : Nat) (zn : Nat → Nat) (w : World) (hl : len ≤ 1024) (hz : ∀ j, zn j < 256)
    (hc : ∀ k, k < len → ∃ b o, a0 = some ⟨b, o, none⟩ ∧ w.cell? ⟨b, o + k, none⟩ = some (.int .u8 ((zn k : Nat) : Int))) :
    Calls Yba.prog 9 #[.slice a0 len cap] w fun e w' => (∃ g, e = .returned (.slice (some ⟨g, 0, none⟩) len len) ∧ SetsAt w' g (msk zn len)) ∧ Below w.heap.size w w' := by
  have HZ : Hid (∀ j, zn j < 256) := hz
  have HC : Hid (∀ k, k < len → ∃ b o, a0 = some ⟨b, o, none⟩ ∧ w.cell? ⟨b, o + k, none⟩ = some (.int .u8 ((zn k : Nat) : Int))) := hc
  clear hc hz
  have hm := make_sets len hl
  have hz1 : (madeCells (Value.string ByteArray.empty).cells (len * 1)).size = len := by rw [size_madeCells]; omega
  generalize madeCells (Value.string ByteArray.empty).cells (len * 1) = cs at hm hz1
  have O0 : Hid ((w.alloc (.cells cs 30)).ownsRow w.heap.size 30 1 (.slice (some ⟨w.heap.size, 0, none⟩) 0 len) 0 []) := World.ownsRow_made w cs len (Nat.le_refl _) (by unfold maxLen; omega) (by omega)
  clear hz1
  go_enter Yba.func9, Yba.ntmps9
  go_wp2_with fail
  go_loopw [3, 11] (fun v3 v11 wr => ∃ k : Nat, k ≤ len ∧ v3 = .slice (some ⟨w.heap.size, 0, none⟩) k len ∧ v11 = .int .i64 k ∧
      wr.ownsRow w.heap.size 30 1 (.slice (some ⟨w.heap.size, 0, none⟩) k len) k (strs (msk zn k)) ∧ Below w.heap.size w wr)
    (fun _ i _ => len - (intOf i).toNat)
  case atStart => exact ⟨0, Nat.zero_le _, rfl, rfl, O0.out, (Below.refl _ w).alloc (Nat.le_refl _) _⟩
  case round =>
    obtain ⟨k, hk, rfl, rfl, ho0, hb⟩ := hrel
    by_cases hlt : k < len
    · obtain ⟨b, o, rfl, hcell⟩ := HC.out k hlt
      have hcx := cell_later hb hcell
      have hzk := HZ.out k
      clear hcell
      obtain ⟨i0, hi, hz0, hz1, hz2⟩ := info_parts info30
      go_wp2_with fail
      refine (cset_any (zn k) wr hzk).mono ?_
      rintro r w2 ⟨rfl, hb2⟩
      have hown2 : w2.ownsRow w.heap.size 30 1 (.slice (some ⟨w.heap.size, 0, none⟩) k len) k (strs (msk zn k)) := ho0.kept (w' := w2) (row := none) ⟨hb2.os, hb2.tape, hb2.output, hb2.size, fun j hj _ => hb2.block j hj⟩ (.inr (by simp [Value.ownBlock]))
      have hB2 : Below w.heap.size w w2 := hb.trans (hb2.mono hb.size)
      clear hb2 hcx
      go_wp2_with (at_builtin; refine wpList_append_fits _ rfl (.tmp 15) (.tmp 18) 27 rfl w.heap.size 30 i0 1 Yba.underlying27 hi hz1 w.heap.size k len _ rfl (hown2.alloc _) ⟨w2.heap.size, 0, none⟩ 1 1 [.string (str (zn k % 64))] rfl rfl (cell_one_new _ _ _) (by intro u hu; simp at hu; subst hu; rfl) (by omega) ?_; intro w3 hown3 hgrow3; rw [← msk_succ] at hown3)
      go_roundw
      case rel =>
        refine ⟨k + 1, by omega, rfl, by go_num, hown3, ?_⟩
        exact (hB2.alloc hB2.size _).grown hgrow3 (by have := hB2.size; simp; omega) (fun k e => by cases e; exact Nat.le_refl _)
      case measure => simp [intOf]; omega
    · obtain rfl : len = k := by omega
      have HS : Hid (SetsAt wr w.heap.size (msk zn len)) := fun j hj => by
        rw [msk_len] at hj
        rw [ho0.cellAt j (by omega)]
        simp [strs, msk, List.getD_eq_getElem?_getD, hj]
      clear ho0
      go_wp2_with fail
      go_ret
      exact ⟨⟨_, rfl, HS.out⟩, hb⟩

theorem mask_u8 (z c h : Nat) (hc : c < 64) (hh : h < 64) : bits .and .u8 ((z : Int) % 64) (bits .or .u8 (c : Int) (h : Int)) = (((z % 64) &&& (c ||| h) : Nat) : Int) := by
  have e1 : (z : Int) % 64 = ((z % 64 : Nat) : Int) := by omega
  have hm : z % 64 < 64 := Nat.mod_lt _ (by decide)
  have ho : c ||| h < 64 := Hit.or_lt' hc hh
  rw [e1, u8_or_nat _ _ (by omega) (by omega), u8_and_nat _ _ (by omega) (by omega)]

/-- h is a set of at most k nodes, none in e, that meets with c every mask. -/
def Good (zn : Nat → Nat) (len : Nat) (k : Int) (e c h : Nat) : Prop := h &&& e = 0 ∧ (Hit.pc h : Int) ≤ k ∧ ∀ j, j < len → (zn j % 64) &&& (c ||| h) ≠ 0

/-- What brute answers. -/
def BruteSays (zn : Nat → Nat) (len : Nat) (k : Int) (e c : Nat) (r : Ending) : Prop := ∃ b : Bool, r = .returned (.bool b) ∧ (b = true ↔ ∃ h, h < 64 ∧ Good zn len k e c h)

set_option maxHeartbeats 1000000 in
theorem brute_any (a0 : Option Addr) (len cap : Nat) (zn : Nat → Nat) (k : Int) (e c : Nat) (w : World) (hl : len ≤ 1024) (he : e < 64) (hcc : c < 64) (hz : ∀ j, zn j < 256)
    (hc : ∀ k, k < len → ∃ b o, a0 = some ⟨b, o, none⟩ ∧ w.cell? ⟨b, o + k, none⟩ = some (.int .u8 ((zn k : Nat) : Int))) :
    Calls Yba.prog 12 #[.slice a0 len cap, .int .i64 k, .int .u8 e, .int .u8 c] w fun r w' => BruteSays zn len k e c r ∧ w' = w := by
  have HZ : Hid (∀ j, zn j < 256) := hz
  have HC : Hid (∀ k, k < len → ∃ b o, a0 = some ⟨b, o, none⟩ ∧ w.cell? ⟨b, o + k, none⟩ = some (.int .u8 ((zn k : Nat) : Int))) := hc
  clear hc hz
  go_enter Yba.func12, Yba.ntmps12
  go_wp2_with fail
  go_loop [9] (fun v => ∃ h : Nat, h ≤ 64 ∧ v = .int .i64 h ∧ ∀ h', h' < h → ¬ Good zn len k e c h') (fun v => 64 - (intOf v).toNat)
  case atStart => exact ⟨0, Nat.zero_le _, rfl, fun h' hh => by omega⟩
  case round =>
    obtain ⟨h, hh, rfl, hno⟩ := hrel
    have HN : Hid (∀ h', h' < h → ¬ Good zn len k e c h') := hno; clear hno
    by_cases hlt : h < 64
    · have nxt : (¬ Good zn len k e c h) → ∀ h', h' < h + 1 → ¬ Good zn len k e c h' := fun hg h' hh' => by
        by_cases e' : h' = h
        · subst e'; exact hg
        · exact HN.out h' (by omega)
      have NXT : Hid ((¬ Good zn len k e c h) → ∀ h', h' < h + 1 → ¬ Good zn len k e c h') := nxt; clear nxt
      have hand : bits .and .u8 (h : Int) (e : Int) = ((h &&& e : Nat) : Int) := u8_and_nat _ _ (by omega) (by omega)
      by_cases hhe : h &&& e = 0
      · have hhe' : (((h &&& e : Nat) : Int) != 0) = false := by rw [hhe]; rfl
        have HHE : Hid (h &&& e = 0) := hhe; clear hhe
        have hp6 := Hit.pc_le6 h
        by_cases hpk : (Hit.pc h : Int) ≤ k
        · go_wp2_with fail
          refine (pop_any h w hlt).mono ?_
          rintro r w2 ⟨rfl, rfl⟩
          generalize hpe : Hit.pc h = p at *
          have HPE : Hid (Hit.pc h = p) := hpe; clear hpe
          go_wp2_with fail
          go_loop [11, 30] (fun v11 v30 => ∃ j : Nat, j ≤ len ∧ v30 = .int .i64 j ∧ v11 = .bool true ∧ ∀ t, t < j → (zn t % 64) &&& (c ||| h) ≠ 0) (fun _ v => len - (intOf v).toNat)
          case atStart => exact ⟨0, Nat.zero_le _, rfl, rfl, fun t ht => by omega⟩
          case round =>
            obtain ⟨j, hj, rfl, rfl, hmet⟩ := hrel
            have HM : Hid (∀ t, t < j → (zn t % 64) &&& (c ||| h) ≠ 0) := hmet; clear hmet
            by_cases hjl : j < len
            · obtain ⟨b, o, rfl, hcell⟩ := HC.out j hjl
              have hzj := HZ.out j
              have hmk := mask_u8 (zn j) c h hcc hlt
              by_cases hzero : (zn j % 64) &&& (c ||| h) = 0
              · rw [hzero] at hmk
                go_wp2_with fail
                go_round
                case rel => exact ⟨h + 1, by omega, by go_num, NXT.out (fun hg => hg.2.2 j hjl hzero)⟩
                case measure => simp [intOf]; omega
              · have hne : ((((zn j % 64) &&& (c ||| h) : Nat) : Int) == 0) = false := by simp only [beq_eq_false_iff_ne]; omega
                have HZR : Hid (¬ (zn j % 64) &&& (c ||| h) = 0) := hzero; clear hzero
                generalize hq : (zn j % 64) &&& (c ||| h) = q at *
                have HQ : Hid ((zn j % 64) &&& (c ||| h) = q) := hq; clear hq
                go_wp2_with fail
                go_round
                case rel =>
                  refine ⟨j + 1, by omega, by go_num, rfl, fun t ht => ?_⟩
                  by_cases e' : t = j
                  · subst e'; rw [HQ.out]; exact HZR.out
                  · exact HM.out t (by omega)
                case measure => simp [intOf]; omega
            · obtain rfl : len = j := by omega
              have HG : Hid (Good zn len k e c h) := ⟨HHE.out, by rw [HPE.out]; exact hpk, HM.out⟩
              go_wp2_with fail
              go_ret
              exact ⟨⟨true, rfl, iff_of_true rfl ⟨h, hlt, HG.out⟩⟩, rfl⟩
        · go_wp2_with fail
          refine (pop_any h w hlt).mono ?_
          rintro r w2 ⟨rfl, rfl⟩
          generalize hpe : Hit.pc h = p at *
          have HPE : Hid (Hit.pc h = p) := hpe; clear hpe
          have HPK : Hid (¬ (p : Int) ≤ k) := by
            show ¬ (p : Int) ≤ k
            omega
          go_wp2_with fail
          go_round
          case rel => exact ⟨h + 1, by omega, by go_num, NXT.out (fun hg => by have h1 := HPK.out; have h2 := hg.2.1; rw [HPE.out] at h2; omega)⟩
          case measure => simp [intOf]; omega
      · have hhe' : (((h &&& e : Nat) : Int) != 0) = true := by rw [bne_iff_ne]; omega
        go_wp2_with fail
        go_round
        case rel => exact ⟨h + 1, by omega, by go_num, NXT.out (fun hg => hhe hg.1)⟩
        case measure => simp [intOf]; omega
    · go_wp2_with fail
      go_ret
      refine ⟨⟨false, rfl, ?_⟩, rfl⟩
      simp only [Bool.false_eq_true, false_iff]
      rintro ⟨h', hh', hg⟩
      exact HN.out h' (by omega) hg

end Go.Proofs.Ybulkavmc.Ns

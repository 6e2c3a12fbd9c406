/-
  zzs2342cset, zzs2342csets, zzs2342cpop, zzs2342cbrute, Hittable: the walks.
-/
import Derived.Test.YbulkavmcHittable
import Derived.OwnWalk
import Derived.Maps.AppendAt
import Derived.Laws.BitsAllLaws
namespace Go.Proofs.Ybulkavmc.Ns
open Go.RowKit

theorem bit_u8 (m i : Nat) (hm : m < 256) : (bits .and .u8 ((m : Int) / 2 ^ i) 1 == 1) = m.testBit i := by
  have e : (m : Int) / 2 ^ i = ((m / 2 ^ i : Nat) : Int) := by rw [Int.natCast_ediv]; simp
  rw [e, show (1 : Int) = ((1 : Nat) : Int) from rfl, u8_and_nat _ _ (Nat.lt_of_le_of_lt (Nat.div_le_self _ _) hm) (by decide), nat_mask1, Nat.testBit_eq_decide_div_mod_eq]
  rcases Nat.mod_two_eq_zero_or_one (m / 2 ^ i) with h | h <;> rw [h] <;> rfl

theorem mod_in : ∀ m : Fin 256, ∀ i : Fin 6, m.val.testBit i.val = true → (m.val % 2 ^ i.val) ||| 2 ^ i.val = m.val % 2 ^ (i.val + 1) := by decide +kernel
theorem mod_out : ∀ m : Fin 256, ∀ i : Fin 6, m.val.testBit i.val = false → m.val % 2 ^ i.val = m.val % 2 ^ (i.val + 1) := by decide +kernel
theorem mod_lt : ∀ m : Fin 256, ∀ i : Fin 7, m.val % 2 ^ i.val < 64 := by decide +kernel
theorem mod_bit : ∀ m : Fin 256, ∀ i : Fin 6, (m.val % 2 ^ i.val).testBit i.val = false := by decide +kernel
theorem pc_in : ∀ m : Fin 64, ∀ i : Fin 8, m.val.testBit i.val = true → Hit.pc (m.val % 2 ^ i.val) + 1 = Hit.pc (m.val % 2 ^ (i.val + 1)) := by decide +kernel
theorem pc_out : ∀ m : Fin 64, ∀ i : Fin 8, m.val.testBit i.val = false → Hit.pc (m.val % 2 ^ i.val) = Hit.pc (m.val % 2 ^ (i.val + 1)) := by decide +kernel

theorem nd_cells (w : World) (j : Nat) (hj : j < 6) : (w.alloc (.cells #[.int .i64 0, .int .i64 1, .int .i64 255, .int .i64 256, .int .i64 65536, .int .i64 16777216] 36)).cell? ⟨w.heap.size, j, none⟩ = some (.int .i64 (Sp.nd j : Nat)) := by
  rw [cell_of_row _ w.heap.size j _ 36 (0, 0) (heap_alloc_new w _)]
  match j, hj with
  | 0, _ => rfl
  | 1, _ => rfl
  | 2, _ => rfl
  | 3, _ => rfl
  | 4, _ => rfl
  | 5, _ => rfl

theorem cset_any (m : Nat) (w : World) (hm : m < 256) :
    Calls Yba.prog 11 #[.int .u8 m] w fun e w' => e = .returned (.string (str (m % 64))) ∧ Below w.heap.size w w' := by
  have h0 := nd_cells w
  have hb0 : Below w.heap.size w (w.alloc (.cells #[.int .i64 0, .int .i64 1, .int .i64 255, .int .i64 256, .int .i64 65536, .int .i64 16777216] 36)) := (Below.refl _ w).alloc (Nat.le_refl _) _
  have H0 : Hid (∀ j, j < 6 → (w.alloc (.cells #[.int .i64 0, .int .i64 1, .int .i64 255, .int .i64 256, .int .i64 65536, .int .i64 16777216] 36)).cell? ⟨w.heap.size, j, none⟩ = some (.int .i64 (Sp.nd j : Nat))) := h0
  clear h0
  go_enter Yba.func11, Yba.ntmps11
  go_wp2_with fail
  go_loopw [4, 5] (fun v4 v5 wr => ∃ i : Nat, i ≤ 6 ∧ v5 = .int .i64 i ∧ v4 = .string (str (m % 2 ^ i)) ∧ (∀ j, j < 6 → wr.cell? ⟨w.heap.size, j, none⟩ = some (.int .i64 (Sp.nd j : Nat))) ∧ Below w.heap.size w wr) (fun _ i _ => 6 - (intOf i).toNat)
  case atStart => exact ⟨0, Nat.zero_le _, rfl, by rw [Nat.pow_zero, Nat.mod_one]; rfl, H0.out, hb0⟩
  case round =>
    obtain ⟨i, hi, rfl, rfl, hcl, hb⟩ := hrel
    have HC : Hid (∀ j, j < 6 → wr.cell? ⟨w.heap.size, j, none⟩ = some (.int .i64 (Sp.nd j : Nat))) := hcl
    by_cases hlt : i < 6
    · have hci := hcl i hlt
      clear hcl hb0
      have hbit := bit_u8 m i hm
      have hm64 := mod_lt ⟨m, hm⟩ ⟨i, by omega⟩
      have hnb := mod_bit ⟨m, hm⟩ ⟨i, hlt⟩
      simp only at hm64 hnb
      cases hb1 : m.testBit i with
      | true =>
        have HS : Hid ((m % 2 ^ i) ||| 2 ^ i = m % 2 ^ (i + 1)) := mod_in ⟨m, hm⟩ ⟨i, hlt⟩ hb1
        rw [hb1] at hbit
        have HN : Hid ((m % 2 ^ i).testBit i = false) := hnb
        clear hb1 hnb
        generalize m % 2 ^ i = a at *
        go_wp2_with fail
        refine (with_m a ⟨i, hlt⟩ hm64 HN.out _).mono ?_
        rintro r w2 ⟨rfl, hb2⟩
        have hB2 : Hid (Below w.heap.size w w2) := hb.trans (hb2.mono hb.size)
        have hC2 : Hid (∀ j, j < 6 → w2.cell? ⟨w.heap.size, j, none⟩ = some (.int .i64 (Sp.nd j : Nat))) := fun j hj => cell_later hb2 (HC.out j hj)
        clear hb2
        go_wp2_with fail
        go_roundw
        case rel => exact ⟨i + 1, by omega, by go_num, by rw [← HS.out], hC2.out, hB2.out⟩
        case measure => simp [intOf]; omega
      | false =>
        have HS : Hid (m % 2 ^ i = m % 2 ^ (i + 1)) := mod_out ⟨m, hm⟩ ⟨i, hlt⟩ hb1
        rw [hb1] at hbit
        clear hb1 hnb
        go_wp2_with fail
        go_roundw
        case rel => exact ⟨i + 1, by omega, by go_num, by rw [← HS.out], HC.out, hb⟩
        case measure => simp [intOf]; omega
    · obtain rfl : i = 6 := by omega
      clear hcl
      go_wp2_with fail
      go_ret
      exact ⟨rfl, hb⟩

theorem pop_any (m : Nat) (w : World) (hm : m < 64) :
    Calls Yba.prog 17 #[.int .u8 m] w fun e w' => e = .returned (.int .i64 (Hit.pc m : Nat)) ∧ w' = w := by
  have h8 : Hid (m % 2 ^ 8 = m) := Nat.mod_eq_of_lt (by omega)
  go_enter Yba.func17, Yba.ntmps17
  go_wp2_with fail
  go_loop [3, 4] (fun v3 v4 => ∃ i : Nat, i ≤ 8 ∧ v4 = .int .i64 i ∧ v3 = .int .i64 (Hit.pc (m % 2 ^ i) : Nat)) (fun _ i => 8 - (intOf i).toNat)
  case atStart => exact ⟨0, Nat.zero_le _, rfl, by rw [Nat.pow_zero, Nat.mod_one]; rfl⟩
  case round =>
    obtain ⟨i, hi, rfl, rfl⟩ := hrel
    by_cases hlt : i < 8
    · have hbit := bit_u8 m i (by omega)
      have hp6 := Hit.pc_le6 (m % 2 ^ i)
      cases hb1 : m.testBit i with
      | true =>
        have HS : Hid (Hit.pc (m % 2 ^ i) + 1 = Hit.pc (m % 2 ^ (i + 1))) := pc_in ⟨m, hm⟩ ⟨i, hlt⟩ hb1
        rw [hb1] at hbit
        clear hb1
        generalize Hit.pc (m % 2 ^ i) = a at *
        go_wp2_with fail
        go_round
        case rel => exact ⟨i + 1, by omega, by go_num, congrArg (Value.int .i64) (by have := HS.out; omega)⟩
        case measure => simp [intOf]; omega
      | false =>
        have HS : Hid (Hit.pc (m % 2 ^ i) = Hit.pc (m % 2 ^ (i + 1))) := pc_out ⟨m, hm⟩ ⟨i, hlt⟩ hb1
        rw [hb1] at hbit
        clear hb1
        generalize Hit.pc (m % 2 ^ i) = a at *
        go_wp2_with fail
        go_round
        case rel => exact ⟨i + 1, by omega, by go_num, congrArg (Value.int .i64) (by have := HS.out; omega)⟩
        case measure => simp [intOf]; omega
    · obtain rfl : i = 8 := by omega
      rw [h8.out]
      go_wp2_with fail
      go_ret
      exact ⟨rfl, rfl⟩

/-- Hittable. -/
theorem Hittable_any (ms : List Nat) (hms : ∀ s ∈ ms, s < 64) (hl : ms.length ≤ 1024) (e : Nat) (he : e < 64) (k : Int) (g cap : Nat) (w : World) (hk1 : -1000 ≤ k) (hk2 : k ≤ 1000) (hS : SetsAt w g ms) :
    Calls Yba.prog 10 #[.slice (some ⟨g, 0, none⟩) ms.length cap, .int .i64 k, .string (str e)] w fun r w' => r = .returned (.bool (Hit.hit ms e 64 k 0)) ∧ Below w.heap.size w w' := by
  have H := hit_any ms hms hl e he 64 k 0 g cap w (by decide) (by decide) (by omega) (by omega) hS
  have H' : Hid (Calls Yba.prog 15 #[.slice (some ⟨g, 0, none⟩) ms.length cap, .int .i64 k, .string (str e), .string (str 0)] w fun r w' => r = .returned (.bool (Hit.hit ms e 64 k 0)) ∧ Below w.heap.size w w') := H
  clear H hS hms
  generalize Hit.hit ms e 64 k 0 = R at *
  go_enter Yba.func10, Yba.ntmps10
  go_wp2_with fail
  refine H'.out.mono ?_
  rintro r w2 ⟨rfl, hb⟩
  go_wp2_with fail
  go_ret
  exact ⟨rfl, hb⟩

end Go.Proofs.Ybulkavmc.Ns

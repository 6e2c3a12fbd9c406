/-
  mix, unshift, inv, unmix: the walks.
-/
import Derived.Test.YbulkavmcRows
import Derived.Test.YbulkavmcMix
import Derived.WalkKit
import Derived.WalkSpells
import Derived.WalkLawsBesides
import Derived.Laws.Bits64
import Derived.Laws.BitsAllLaws
namespace Go.Proofs.Ybulkavmc
open Go.RowKit

theorem ret_int {k : IntKind} {a b : Int} (h : a = b) : Ending.returned (.int k a) = .returned (.int k b) := by rw [h]
theorem ret_bool {a b : Bool} (h : a = b) : Ending.returned (.bool a) = .returned (.bool b) := by rw [h]

theorem mix_any (x : Nat) (w : World) (hx : x < 18446744073709551616) :
    Calls Yba.prog 8 #[.int .u64 x] w fun e w' => e = .returned (.int .u64 (Mix.mix x : Nat)) ∧ w' = w := by
  have h1 : IntKind.u64.wrap (bits .xor .u64 (x : Int) ((x : Int) / 1073741824) * 13787848793156543929) = ((Mix.xsh 30 x * Mix.c1 % 18446744073709551616 : Nat) : Int) := mixStep_u64 x 1073741824 13787848793156543929 hx
  obtain ⟨y, hy⟩ : ∃ y, Mix.xsh 30 x * Mix.c1 % 18446744073709551616 = y := ⟨_, rfl⟩
  have hyl : y < 18446744073709551616 := by rw [← hy]; exact Nat.mod_lt _ (by decide)
  rw [hy] at h1
  have h2 : IntKind.u64.wrap (bits .xor .u64 (y : Int) ((y : Int) / 134217728) * 10723151780598845931) = ((Mix.xsh 27 y * Mix.c2 % 18446744073709551616 : Nat) : Int) := mixStep_u64 y 134217728 10723151780598845931 hyl
  obtain ⟨z, hz⟩ : ∃ z, Mix.xsh 27 y * Mix.c2 % 18446744073709551616 = z := ⟨_, rfl⟩
  have hzl : z < 18446744073709551616 := by rw [← hz]; exact Nat.mod_lt _ (by decide)
  rw [hz] at h2
  have h3 : bits .xor .u64 (z : Int) ((z : Int) / 2147483648) = ((Mix.xsh 31 z : Nat) : Int) := xorShift_u64 z 2147483648 hzl
  have hm : Mix.mix x = Mix.xsh 31 z := by unfold Mix.mix; rw [hy, hz]
  rw [hm]
  clear hm hy hz hyl hzl
  generalize Mix.xsh 31 z = r at *
  go_enter Yba.func8, Yba.ntmps8
  go_wp2
  go_ret
  exact ⟨rfl, rfl⟩

theorem unsh_any (s y : Nat) (w : World) (hs : s < 64) (hy : y < 18446744073709551616) :
    Calls Yba.prog 13 #[.int .u64 y, .int .u64 s] w fun e w' => e = .returned (.int .u64 (Mix.unsh s y 64 : Nat)) ∧ w' = w := by
  go_enter Yba.func13, Yba.ntmps13
  go_wp2
  go_loop [5, 6] (fun x i => ∃ k : Nat, k ≤ 64 ∧ i = .int .i64 k ∧ x = .int .u64 (Mix.unsh s y k : Nat)) (fun _ i => 64 - (intOf i).toNat)
  case atStart => exact ⟨0, Nat.zero_le _, rfl, rfl⟩
  case round =>
    obtain ⟨k, hk, rfl, rfl⟩ := hrel
    have hu := Mix.unsh_lt s y hy k
    have hst : Hid (bits .xor .u64 (y : Int) ((Mix.unsh s y k : Nat) / 2 ^ s) = ((Mix.unsh s y (k + 1) : Nat) : Int)) := by
      show bits .xor .u64 (y : Int) ((Mix.unsh s y k : Nat) / 2 ^ s) = _
      have e : ((Mix.unsh s y k : Nat) : Int) / 2 ^ s = ((Mix.unsh s y k / 2 ^ s : Nat) : Int) := by
        rw [Int.natCast_ediv]; simp
      rw [e, u64_xor_nat _ _ hy (Nat.lt_of_le_of_lt (Nat.div_le_self _ _) hu)]
      rfl
    by_cases hlt : k < 64
    · go_wp2
      go_round
      case rel => exact ⟨k + 1, by omega, by go_num, congrArg (Value.int .u64) hst.out⟩
      case measure => simp [intOf]; omega
    · obtain rfl : k = 64 := by omega
      go_wp2
      go_ret
      exact ⟨rfl, rfl⟩

theorem inv_step (a k : Nat) : IntKind.u64.wrap ((Mix.inv a k : Nat) * IntKind.u64.wrap (2 - IntKind.u64.wrap ((a : Int) * (Mix.inv a k : Nat)))) = ((Mix.inv a (k + 1) : Nat) : Int) := by
  show _ = ((Mix.inv a k * ((2 + (18446744073709551616 - a * Mix.inv a k % 18446744073709551616)) % 18446744073709551616) % 18446744073709551616 : Nat) : Int)
  generalize Mix.inv a k = v
  have e1 : IntKind.u64.wrap ((a : Int) * (v : Int)) = ((a * v % 18446744073709551616 : Nat) : Int) := by rw [IntKind.wrap_u64, ← Int.natCast_mul]; omega
  have hp : a * v % 18446744073709551616 < 18446744073709551616 := Nat.mod_lt _ (by decide)
  rw [e1]
  generalize a * v % 18446744073709551616 = p at *
  have e2 : IntKind.u64.wrap (2 - (p : Int)) = (((2 + (18446744073709551616 - p)) % 18446744073709551616 : Nat) : Int) := by rw [IntKind.wrap_u64]; omega
  rw [e2]
  generalize (2 + (18446744073709551616 - p)) % 18446744073709551616 = q
  rw [IntKind.wrap_u64, ← Int.natCast_mul]
  omega

theorem inv_any (a : Nat) (w : World) :
    Calls Yba.prog 14 #[.int .u64 a] w fun e w' => e = .returned (.int .u64 (Mix.inv a 6 : Nat)) ∧ w' = w := by
  go_enter Yba.func14, Yba.ntmps14
  go_wp2
  go_loop [3, 4] (fun x i => ∃ k : Nat, k ≤ 6 ∧ i = .int .i64 k ∧ x = .int .u64 (Mix.inv a k : Nat)) (fun _ i => 6 - (intOf i).toNat)
  case atStart => exact ⟨0, Nat.zero_le _, rfl, rfl⟩
  case round =>
    obtain ⟨k, hk, rfl, rfl⟩ := hrel
    by_cases hlt : k < 6
    · go_wp2
      go_round
      case rel => exact ⟨k + 1, by omega, by go_num, congrArg (Value.int .u64) (inv_step a k)⟩
      case measure => simp [intOf]; omega
    · obtain rfl : k = 6 := by omega
      go_wp2
      go_ret
      exact ⟨rfl, rfl⟩

theorem mul_u64 (a b : Nat) : IntKind.u64.wrap ((a : Int) * (b : Int)) = ((a * b % 18446744073709551616 : Nat) : Int) := by
  rw [IntKind.wrap_u64, ← Int.natCast_mul]; omega

theorem unmix_any (y : Nat) (w : World) (hy : y < 18446744073709551616) :
    Calls Yba.prog 7 #[.int .u64 y] w fun e w' => e = .returned (.int .u64 (Mix.unmix y : Nat)) ∧ w' = w := by
  have hU : Hid (Mix.unmix y = Mix.unsh 30 (Mix.unsh 27 (Mix.unsh 31 y 64 * Mix.inv Mix.c2 6 % 18446744073709551616) 64 * Mix.inv Mix.c1 6 % 18446744073709551616) 64) := rfl
  rw [hU.out]
  clear hU
  have l1 := Mix.unsh_lt 31 y hy 64
  go_enter Yba.func7, Yba.ntmps7
  go_wp2_with fail
  refine (unsh_any 31 y w (by decide) hy).mono ?_
  rintro e w' ⟨rfl, rfl⟩
  generalize h1e : Mix.unsh 31 y 64 = a at *
  have G1 : Hid (Mix.unsh 31 y 64 = a) := h1e; clear h1e
  go_wp2_with fail
  refine (inv_any Mix.c2 _).mono ?_
  rintro e w' ⟨rfl, rfl⟩
  generalize h2e : Mix.inv Mix.c2 6 = i2 at *
  have G2 : Hid (Mix.inv Mix.c2 6 = i2) := h2e; clear h2e
  have m1 := mul_u64 a i2
  have l2 : a * i2 % 18446744073709551616 < 18446744073709551616 := Nat.mod_lt _ (by decide)
  generalize h3e : a * i2 % 18446744073709551616 = b at *
  have G3 : Hid (a * i2 % 18446744073709551616 = b) := h3e; clear h3e
  go_wp2_with fail
  refine (unsh_any 27 b _ (by decide) l2).mono ?_
  rintro e w' ⟨rfl, rfl⟩
  generalize h4e : Mix.unsh 27 b 64 = c at *
  have G4 : Hid (Mix.unsh 27 b 64 = c) := h4e; clear h4e
  go_wp2_with fail
  refine (inv_any Mix.c1 _).mono ?_
  rintro e w' ⟨rfl, rfl⟩
  generalize h5e : Mix.inv Mix.c1 6 = i1 at *
  have G5 : Hid (Mix.inv Mix.c1 6 = i1) := h5e; clear h5e
  have m2 := mul_u64 c i1
  have l3 : c * i1 % 18446744073709551616 < 18446744073709551616 := Nat.mod_lt _ (by decide)
  generalize h6e : c * i1 % 18446744073709551616 = d at *
  have G6 : Hid (c * i1 % 18446744073709551616 = d) := h6e; clear h6e
  go_wp2_with fail
  refine (unsh_any 30 d _ (by decide) l3).mono ?_
  rintro e w' ⟨rfl, rfl⟩
  generalize h7e : Mix.unsh 30 d 64 = r at *
  have G7 : Hid (Mix.unsh 30 d 64 = r) := h7e; clear h7e
  go_wp2_with fail
  go_ret
  exact ⟨ret_int (by rw [G1.out, G2.out, G3.out, G4.out, G5.out, G6.out, G7.out]), rfl⟩
end Go.Proofs.Ybulkavmc

/-
  Set's methods at the 64 sets of the six nodes.
-/
import Derived.Test.YbulkavmcNodes
namespace Go.Proofs.Ybulkavmc.Ns
open Go.RowKit

/-- The string of the set m. -/
def str (m : Nat) : ByteArray := ⟨(Sp.SL m).toArray⟩

theorem str_data (m : Nat) : (str m).data.toList = Sp.SL m := rfl
theorem str_size {m : Nat} (hm : m < 64) : (str m).size = 4 * Hit.pc m := by rw [← size_eq, str_data]; exact Sp.len_tab ⟨m, hm⟩
theorem pc6 {m : Nat} (hm : m < 64) : Hit.pc m ≤ 6 := Hit.pc_le ⟨m, hm⟩
theorem eq_str {r : ByteArray} {m : Nat} (h : r.data.toList = Sp.SL m) : r = str m := by
  obtain ⟨⟨l⟩⟩ := r
  have : l = Sp.SL m := h
  subst this
  rfl

theorem len_m (a : Nat) (ha : a < 64) (w : World) : Calls Yba.prog 19 #[.string (str a)] w fun e w' => e = .returned (.int .i64 (Hit.pc a : Nat)) ∧ w' = w := by
  have hs := str_size ha
  have hp := pc6 ha
  refine (len_any (str a) w (by omega)).mono ?_
  rintro e w' ⟨rfl, rfl⟩
  exact ⟨ret_int (by rw [hs]; omega), rfl⟩

theorem disj_m (a b : Nat) (ha : a < 64) (hb : b < 64) (w : World) : Calls Yba.prog 18 #[.string (str a), .string (str b)] w fun e w' => e = .returned (.bool (decide (a &&& b = 0))) ∧ ∃ nq, w' = w.drewN nq := by
  refine (disj_any (str a) (str b) _ _ w (str_size ha) (str_size hb) (pc6 ha) (pc6 hb)).mono ?_
  rintro e w' ⟨rfl, h⟩
  exact ⟨ret_bool (Sp.disj_tab ⟨a, ha⟩ ⟨b, hb⟩), h⟩

theorem common_m (a b : Nat) (ha : a < 64) (hb : b < 64) (w : World) : Calls Yba.prog 20 #[.string (str a), .string (str b)] w fun e w' => e = .returned (.int .i64 (Hit.pc (a &&& b) : Nat)) ∧ ∃ nq, w' = w.drewN nq := by
  refine (common_any (str a) (str b) _ _ w (str_size ha) (str_size hb) (pc6 ha) (pc6 hb)).mono ?_
  rintro e w' ⟨rfl, h⟩
  exact ⟨ret_int (congrArg Int.ofNat (Sp.common_tab ⟨a, ha⟩ ⟨b, hb⟩)), h⟩

theorem has_m (a : Nat) (i : Fin 6) (ha : a < 64) (w : World) : Calls Yba.prog 22 #[.string (str a), .int .i64 (Sp.nd i.val : Nat)] w fun e w' => e = .returned (.bool (a.testBit i.val)) ∧ Below w.heap.size w w' := by
  refine (has_any (str a) _ _ w (str_size ha) (pc6 ha) (Sp.nd_lt i)).mono ?_
  rintro e w' ⟨rfl, h⟩
  exact ⟨ret_bool (Sp.has_tab ⟨a, ha⟩ i), h⟩

theorem with_m (a : Nat) (i : Fin 6) (ha : a < 64) (hi : a.testBit i.val = false) (w : World) : Calls Yba.prog 16 #[.string (str a), .int .i64 (Sp.nd i.val : Nat)] w fun e w' => e = .returned (.string (str (a ||| 2 ^ i.val))) ∧ Below w.heap.size w w' := by
  refine (with_any (str a) _ _ w (str_size ha) (pc6 ha) (Sp.nd_lt i)).mono ?_
  rintro e w' ⟨⟨r, rfl, hr⟩, h⟩
  rw [str_data] at hr
  have h2 := hr.trans (Sp.with_tab ⟨a, ha⟩ i hi)
  exact ⟨by rw [eq_str h2], h⟩

end Go.Proofs.Ybulkavmc.Ns

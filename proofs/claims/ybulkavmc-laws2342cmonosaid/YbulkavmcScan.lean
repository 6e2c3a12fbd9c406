/-
  More on the search's scan.
-/
import Derived.Test.YbulkavmcHit
namespace Go.Proofs.Ybulkavmc.Hit

theorem scan_none (e c : Nat) (a b : List Nat) (h : scan e c a = none) : scan e c (a ++ b) = none := by
  unfold scan at *
  rw [List.foldl_append, h]
  induction b with
  | nil => rfl
  | cons x b ih => exact ih

theorem pc_le6 (m : Nat) : pc m ≤ 6 := by
  unfold pc
  have h1 := Nat.mod_lt m (show 0 < 2 by decide)
  have h2 := Nat.mod_lt (m / 2) (show 0 < 2 by decide)
  have h3 := Nat.mod_lt (m / 4) (show 0 < 2 by decide)
  have h4 := Nat.mod_lt (m / 8) (show 0 < 2 by decide)
  have h5 := Nat.mod_lt (m / 16) (show 0 < 2 by decide)
  have h6 := Nat.mod_lt (m / 32) (show 0 < 2 by decide)
  omega

theorem scan_le (e c : Nat) (ms : List Nat) : ∀ st, scan e c ms = some st → st.unm ≤ ms.length ∧ st.cho ≤ 6 := by
  suffices hs : ∀ ms' : List Nat, ∀ st, scan e c ms'.reverse = some st → st.unm ≤ ms'.reverse.length ∧ st.cho ≤ 6 by
    have := hs ms.reverse
    rwa [List.reverse_reverse] at this
  intro ms'
  induction ms' with
  | nil =>
    intro st h
    simp [scan] at h
    subst h
    exact ⟨Nat.zero_le _, Nat.zero_le _⟩
  | cons s ms' ih =>
    intro st h
    rw [List.reverse_cons, scan_snoc] at h
    rw [List.reverse_cons, List.length_append, List.length_singleton]
    cases hsc : scan e c ms'.reverse with
    | none => rw [hsc] at h; simp [step] at h
    | some st0 =>
      rw [hsc] at h
      obtain ⟨h1, h2⟩ := ih st0 hsc
      have hp := pc_le6 s
      simp only [step] at h
      split at h
      · simp only [Option.some.injEq] at h; subst h; exact ⟨by omega, h2⟩
      · split at h
        · cases h
        · split at h
          · simp only [Option.some.injEq] at h; subst h; exact ⟨by simp only; omega, by simp only; omega⟩
          · simp only [Option.some.injEq] at h; subst h; exact ⟨by simp only; omega, h2⟩

/-- One round of the scan, by its ways. -/
theorem step_met {e c : Nat} {st : Scan} {s : Nat} (h : s &&& c ≠ 0) : step e c (some st) s = some st := by simp [step, h]
theorem step_dead {e c : Nat} {st : Scan} {s : Nat} (h : s &&& c = 0) (h0 : pc s - pc (s &&& e) = 0) : step e c (some st) s = none := by simp [step, h, h0]
theorem step_new {e c : Nat} {st : Scan} {s : Nat} (h : s &&& c = 0) (h0 : pc s - pc (s &&& e) ≠ 0) (h1 : st.unm = 0 ∨ pc s - pc (s &&& e) < st.cho) : step e c (some st) s = some ⟨s, pc s - pc (s &&& e), st.unm + 1⟩ := by
  simp [step, h, h0, h1]
theorem step_old {e c : Nat} {st : Scan} {s : Nat} (h : s &&& c = 0) (h0 : pc s - pc (s &&& e) ≠ 0) (h1 : ¬ (st.unm = 0 ∨ pc s - pc (s &&& e) < st.cho)) : step e c (some st) s = some ⟨st.opn, st.cho, st.unm + 1⟩ := by
  simp [step, h, h0, h1]

theorem scan_take (e c : Nat) (ms : List Nat) (j : Nat) (hj : j < ms.length) : scan e c (ms.take (j + 1)) = step e c (scan e c (ms.take j)) (ms.getD j 0) := by
  rw [List.take_succ_eq_append_getElem hj, scan_snoc, List.getD_eq_getElem?_getD, List.getElem?_eq_getElem hj]
  rfl

/-- What the search answers, by its ways. -/
theorem hit_dead {ms : List Nat} {e f : Nat} {k : Int} {c : Nat} (h : scan e c ms = none) : hit ms e (f + 1) k c = false := by simp [hit, h]
theorem hit_few {ms : List Nat} {e f : Nat} {k : Int} {c : Nat} {st : Scan} (h : scan e c ms = some st) (hu : (st.unm : Int) ≤ k) : hit ms e (f + 1) k c = true := by simp [hit, h, hu]
theorem hit_zero {ms : List Nat} {e f : Nat} {k : Int} {c : Nat} {st : Scan} (h : scan e c ms = some st) (hu : ¬ (st.unm : Int) ≤ k) (hk : k = 0) : hit ms e (f + 1) k c = false := by
  subst hk
  simp only [hit, h]
  rw [if_neg hu, if_pos trivial]
theorem hit_more {ms : List Nat} {e f : Nat} {k : Int} {c : Nat} {st : Scan} (h : scan e c ms = some st) (hu : ¬ (st.unm : Int) ≤ k) (hk : ¬ k = 0) :
    hit ms e (f + 1) k c = (List.range 6).any fun i => st.opn.testBit i && (!e.testBit i && hit ms e f (k - 1) (c ||| 2 ^ i)) := by
  simp only [hit, h]
  rw [if_neg hu, if_neg hk]

end Go.Proofs.Ybulkavmc.Hit

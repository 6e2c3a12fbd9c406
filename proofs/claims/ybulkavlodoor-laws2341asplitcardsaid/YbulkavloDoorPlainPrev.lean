/-
  The offset before i in its block: the plain law of LawS2341ASplit and LawS2341AOne.
-/
import Derived.Test.YbulkavloDoorPlainLong
namespace Go.Proofs.YbulkavloDoor.Pl

/-- p is the offset before i, as 'prev' reckons it off the words. -/
def PrevIs (ws : List Nat) (i p : Nat) : Prop := (has ws i = true ∧ IsNext ws (i + 1) (p + 1)) ∨ (has ws i = false ∧ p + 1 = i)

/-- The start that the plain model has come to when it has passed j starts. -/
def sOf (h : Nat → Nat) : Nat → Nat
  | 0 => 0
  | j + 1 => h j

/-- r is the offset before i, as the plain model 'zzs2341aprev' reckons it off the starts h 0 .. h (L - 1). -/
def ZzIs (h : Nat → Nat) (L n i r : Nat) : Prop :=
  ∃ J, J ≤ L ∧ (∀ t, t < J → h t ≤ i) ∧ (J = L ∨ i < h J) ∧ ((i = sOf h J ∧ r + 1 = if J = L then n else h J) ∨ (i ≠ sOf h J ∧ r + 1 = i))

theorem zz_prev (ws : List Nat) (h : Nat → Nat) (L n : Nat) (hL : 1 ≤ L) (h0 : h 0 = 0) (hinc : ∀ a b, a < b → b < L → h a < h b) (hn : ∀ j, j < L → h j < n)
    (hh : ∀ x, has ws x = true ↔ x = n ∨ ∃ j, j < L ∧ x = h j) (i r p : Nat) (hi : i < n) (hz : ZzIs h L n i r) (hp : PrevIs ws i p) : p = r ∧ r < n := by
  obtain ⟨J, hJ, hle, hgt, hr⟩ := hz
  have hJ1 : 1 ≤ J := by
    rcases Nat.eq_zero_or_pos J with rfl | h
    · rcases hgt with e | e
      · omega
      · rw [h0] at e; omega
    · exact h
  have hs : sOf h J = h (J - 1) := by
    obtain ⟨J', rfl⟩ : ∃ J', J = J' + 1 := ⟨J - 1, by omega⟩
    rfl
  rw [hs] at hr
  have hsi : h (J - 1) ≤ i := hle (J - 1) (by omega)
  -- the next start
  have he : i < (if J = L then n else h J) ∧ (if J = L then n else h J) ≤ n := by
    split
    · exact ⟨hi, Nat.le_refl _⟩
    · rename_i hne
      exact ⟨hgt.resolve_left hne, Nat.le_of_lt (hn J (by omega))⟩
  have hnext : IsNext ws (i + 1) (if J = L then n else h J) := by
    refine ⟨he.1, ?_, fun j hj hlt => ?_⟩
    · rw [hh]
      split
      · exact .inl rfl
      · exact .inr ⟨J, by omega, rfl⟩
    · rw [Bool.eq_false_iff]
      intro hc
      rcases (hh j).1 hc with rfl | ⟨t, ht, rfl⟩
      · exact absurd he.2 (by omega)
      · by_cases htJ : t < J
        · have := hle t htJ; omega
        · by_cases hJL : J = L
          · omega
          · rw [if_neg hJL] at hlt
            by_cases e : t = J
            · subst e; omega
            · have := hinc J t (by omega) ht; omega
  have hasI : has ws i = true ↔ i = h (J - 1) := by
    rw [hh]
    constructor
    · rintro (e | ⟨t, ht, e⟩)
      · omega
      · by_cases htJ : t < J
        · by_cases e' : t = J - 1
          · rw [e, e']
          · have := hinc t (J - 1) (by omega) (by omega); omega
        · have hJL : J ≠ L := by omega
          rw [if_neg hJL] at he
          by_cases e' : t = J
          · subst e'; omega
          · have := hinc J t (by omega) ht; omega
    · intro e
      exact .inr ⟨J - 1, by omega, e⟩
  rcases hr with ⟨e, hr⟩ | ⟨e, hr⟩
  · rcases hp with ⟨_, hp⟩ | ⟨hf, _⟩
    · have := hp.unique hnext
      omega
    · rw [hasI.2 e] at hf; cases hf
  · rcases hp with ⟨ht, _⟩ | ⟨_, hp⟩
    · exact absurd (hasI.1 ht) e
    · omega

/-- Where the string is one block. -/
def PrevOne (n i p : Nat) : Prop := (i = 0 ∧ p + 1 = n) ∨ (0 < i ∧ p + 1 = i)

theorem zz_one (n i r p : Nat) (hi : i < n) (hz : ZzIs (fun _ => 0) 1 n i r) (hp : PrevOne n i p) : p = r ∧ r < n := by
  obtain ⟨J, hJ, _, hgt, hr⟩ := hz
  obtain rfl : J = 1 := by
    rcases hgt with e | e
    · exact e
    · simp only at e; omega
  simp only [sOf] at hr
  unfold PrevOne at hp
  rcases hr with ⟨e, hr⟩ | ⟨e, hr⟩
  · rw [if_pos trivial] at hr; omega
  · omega

end Go.Proofs.YbulkavloDoor.Pl

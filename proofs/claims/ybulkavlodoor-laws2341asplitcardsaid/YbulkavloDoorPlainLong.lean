/-
  Blocks laid end to end: the plain law of LawS2341CLong.
-/
import Derived.Test.YbulkavloDoorPlain
namespace Go.Proofs.YbulkavloDoor.Pl

/-- Where block k begins; f: the blocks' sizes. -/
def off (f : Nat → Nat) : Nat → Nat
  | 0 => 0
  | k + 1 => off f k + f k

theorem off_le (f : Nat → Nat) (c : Nat) (h : ∀ j, f j ≤ c) : ∀ k, off f k ≤ c * k
  | 0 => by simp [off]
  | k + 1 => by have := off_le f c h k; have := h k; rw [Nat.mul_succ]; simp only [off]; omega

theorem off_add (f : Nat → Nat) (h : ∀ j, 1 ≤ f j) (a : Nat) : ∀ d, off f a + d ≤ off f (a + d)
  | 0 => Nat.le_refl _
  | d + 1 => by have := off_add f h a d; have := h (a + d); show _ ≤ off f (a + d) + f (a + d); omega

theorem off_lt (f : Nat → Nat) (h : ∀ j, 1 ≤ f j) {a b : Nat} (hab : a < b) : off f a < off f b := by
  have := off_add f h a (b - a)
  rw [show a + (b - a) = b by omega] at this
  omega

theorem off_mono (f : Nat → Nat) (h : ∀ j, 1 ≤ f j) {a b : Nat} (hab : a ≤ b) : off f a ≤ off f b := by
  have := off_add f h a (b - a)
  rw [show a + (b - a) = b by omega] at this
  omega

theorem off_ones (f : Nat → Nat) (i : Nat) : ∀ d, (∀ t, i ≤ t → t < i + d → f t = 1) → off f (i + d) = off f i + d
  | 0, _ => rfl
  | d + 1, h => by
    have e := off_ones f i d (fun t h1 h2 => h t h1 (by omega))
    have e1 := h (i + d) (by omega) (by omega)
    show off f (i + d) + f (i + d) = _
    omega

/-- The words when k blocks have been begun. -/
def begun (f : Nat → Nat) (n m : Nat) : Nat → List Nat
  | 0 => add (List.replicate m 0) n
  | k + 1 => add (begun f n m k) (off f k)

theorem length_begun (f : Nat → Nat) (n m : Nat) : ∀ k, (begun f n m k).length = m
  | 0 => by simp [begun, length_add]
  | k + 1 => by rw [begun, length_add]; exact length_begun f n m k

theorem has_begun (f : Nat → Nat) (n m : Nat) (hm : n / 64 < m) : ∀ k, (∀ j, j < k → off f j ≤ n) → ∀ x, has (begun f n m k) x = true ↔ x = n ∨ ∃ j, j < k ∧ x = off f j
  | 0, _, x => by
    rw [begun, has_add (by simpa using hm), has_zero]
    simp
  | k + 1, h, x => by
    have hk := h k (by omega)
    rw [begun, has_add (by rw [length_begun]; exact Nat.lt_of_le_of_lt (Nat.div_le_div_right hk) hm), Bool.or_eq_true, has_begun f n m hm k (fun j hj => h j (by omega)) x, decide_eq_true_iff]
    constructor
    · rintro ((h | ⟨j, hj, e⟩) | h)
      · exact .inl h
      · exact .inr ⟨j, by omega, e⟩
      · exact .inr ⟨k, by omega, h⟩
    · rintro (h | ⟨j, hj, e⟩)
      · exact .inl (.inl h)
      · by_cases hjk : j = k
        · subst hjk; exact .inr e
        · exact .inl (.inr ⟨j, by omega, e⟩)

theorem has_all (f : Nat → Nat) (hf : ∀ j, 1 ≤ f j) (L m : Nat) (hm : off f L / 64 < m) (x : Nat) : has (begun f (off f L) m L) x = true ↔ ∃ j, j ≤ L ∧ x = off f j := by
  rw [has_begun f _ m hm L (fun j hj => off_mono f hf (by omega))]
  constructor
  · rintro (h | ⟨j, hj, e⟩)
    · exact ⟨L, Nat.le_refl _, h⟩
    · exact ⟨j, by omega, e⟩
  · rintro ⟨j, hj, e⟩
    by_cases h : j = L
    · subst h; exact .inl e
    · exact .inr ⟨j, by omega, e⟩

theorem has_next (f : Nat → Nat) (hf : ∀ j, 1 ≤ f j) (L m : Nat) (hm : off f L / 64 < m) : has (begun f (off f L) m L) (off f L + 1) = false := by
  rw [Bool.eq_false_iff]
  intro h
  obtain ⟨j, hj, e⟩ := (has_all f hf L m hm _).1 h
  have := off_mono f hf hj
  omega

theorem past_want (f : Nat → Nat) (hf : ∀ j, 1 ≤ f j) (L m : Nat) (hm : off f L / 64 < m) (i J : Nat) (hi : i ≤ J) (hJ : J ≤ L) (hone : ∀ t, i ≤ t → t < J → f t = 1) (hend : J = L ∨ 2 ≤ f J) :
    IsPast (begun f (off f L) m L) (off f L) (off f i) (off f J) := by
  refine ⟨off_mono f hf hi, off_mono f hf hJ, ?_, fun x hx hlt => ?_⟩
  · have : has (begun f (off f L) m L) (off f J + 1) = false := by
      rcases hend with rfl | h2
      · exact has_next f hf J m hm
      · rw [Bool.eq_false_iff]
        intro h
        obtain ⟨j, hj, e⟩ := (has_all f hf L m hm _).1 h
        by_cases hjJ : j ≤ J
        · have := off_mono f hf hjJ; omega
        · have := off_mono f hf (show J + 1 ≤ j by omega)
          simp only [off] at this
          omega
    rw [this, Bool.and_false]
  · have hx' : x = off f (i + (x - off f i)) ∧ i + (x - off f i) < J := by
      have e := off_ones f i (J - i) (fun t h1 h2 => hone t h1 (by omega))
      rw [show i + (J - i) = J by omega] at e
      have hd : x - off f i < J - i := by omega
      have := off_ones f i (x - off f i) (fun t h1 h2 => hone t h1 (by omega))
      exact ⟨by omega, by omega⟩
    obtain ⟨e, hlt'⟩ := hx'
    have e1 : f (i + (x - off f i)) = 1 := hone _ (by omega) hlt'
    rw [Bool.and_eq_true]
    refine ⟨(has_all f hf L m hm _).2 ⟨i + (x - off f i), by omega, e⟩, (has_all f hf L m hm _).2 ⟨i + (x - off f i) + 1, by omega, ?_⟩⟩
    show _ = off f (i + (x - off f i)) + f (i + (x - off f i))
    omega

end Go.Proofs.YbulkavloDoor.Pl

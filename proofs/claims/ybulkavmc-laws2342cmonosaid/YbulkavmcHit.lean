/-
  The plain law of LawS2342CMono: hitting sets of a universe of six nodes, each set a number below 64. No Go in sight.
-/
namespace Go.Proofs.Ybulkavmc.Hit

/-- How many of the six lowest bits are set. -/
def pc (m : Nat) : Nat := m % 2 + m / 2 % 2 + m / 4 % 2 + m / 8 % 2 + m / 16 % 2 + m / 32 % 2

theorem pc_or : ∀ h : Fin 64, ∀ i : Fin 6, pc (h.val ||| 2 ^ i.val) ≤ pc h.val + 1 := by decide +kernel
theorem pc_zero : ∀ h : Fin 64, pc h.val = 0 → h.val = 0 := by decide +kernel
theorem meet_iff : ∀ a b : Fin 64, (a.val &&& b.val ≠ 0) ↔ ∃ i : Fin 6, a.val.testBit i.val = true ∧ b.val.testBit i.val = true := by decide +kernel
theorem free_iff : ∀ s e : Fin 64, (pc s.val - pc (s.val &&& e.val) ≠ 0) ↔ ∃ i : Fin 6, s.val.testBit i.val = true ∧ e.val.testBit i.val = false := by decide +kernel
theorem sub_le : ∀ s e : Fin 64, pc (s.val &&& e.val) ≤ pc s.val := by decide +kernel
theorem drop_bit : ∀ h : Fin 64, ∀ i : Fin 6, h.val.testBit i.val = true → ∃ g : Fin 64, pc g.val + 1 = pc h.val ∧ (2 ^ i.val ||| g.val = h.val) ∧ (g.val &&& h.val = g.val) := by decide +kernel
theorem or_lt : ∀ a b : Fin 64, a.val ||| b.val < 64 := by decide +kernel
theorem bit_lt : ∀ i : Fin 6, 2 ^ i.val < 64 := by decide +kernel
theorem grows : ∀ c : Fin 64, ∀ i : Fin 6, c.val.testBit i.val = false → c.val < (c.val ||| 2 ^ i.val) := by decide +kernel
theorem pc_le : ∀ c : Fin 64, pc c.val ≤ 6 := by decide +kernel

theorem or_lt' {a b : Nat} (ha : a < 64) (hb : b < 64) : a ||| b < 64 := or_lt ⟨a, ha⟩ ⟨b, hb⟩
theorem and_lt' {a : Nat} (b : Nat) (ha : a < 64) : a &&& b < 64 := Nat.lt_of_le_of_lt Nat.and_le_left ha

/-- Two sets meet. -/
theorem meet {a b : Nat} (ha : a < 64) (hb : b < 64) : a &&& b ≠ 0 ↔ ∃ i, i < 6 ∧ a.testBit i = true ∧ b.testBit i = true := by
  rw [meet_iff ⟨a, ha⟩ ⟨b, hb⟩]
  exact ⟨fun ⟨i, h⟩ => ⟨i.val, i.isLt, h⟩, fun ⟨i, hi, h⟩ => ⟨⟨i, hi⟩, h⟩⟩

/-- What the search keeps of the sets that it has passed: the open set, its choices, how many are not met. -/
structure Scan where
  opn : Nat
  cho : Nat
  unm : Nat

/-- One set more; 'none': it cannot be met. -/
def step (e c : Nat) (st : Option Scan) (s : Nat) : Option Scan :=
  match st with
  | none => none
  | some st =>
    if s &&& c ≠ 0 then some st
    else if pc s - pc (s &&& e) = 0 then none
    else if st.unm = 0 ∨ pc s - pc (s &&& e) < st.cho then some ⟨s, pc s - pc (s &&& e), st.unm + 1⟩
    else some ⟨st.opn, st.cho, st.unm + 1⟩

def scan (e c : Nat) (ms : List Nat) : Option Scan := ms.foldl (step e c) (some ⟨0, 0, 0⟩)

theorem scan_snoc (e c : Nat) (ms : List Nat) (s : Nat) : scan e c (ms ++ [s]) = step e c (scan e c ms) s := by simp [scan]

/-- The search. -/
def hit (ms : List Nat) (e : Nat) : Nat → Int → Nat → Bool
  | 0, _, _ => false
  | f + 1, k, c =>
    match scan e c ms with
    | none => false
    | some st =>
      if (st.unm : Int) ≤ k then true
      else if k = 0 then false
      else (List.range 6).any fun i => st.opn.testBit i && (!e.testBit i && hit ms e f (k - 1) (c ||| 2 ^ i))

/-- Some set of at most k nodes, none of them in e, meets with c every set. -/
def Spec (ms : List Nat) (e : Nat) (k : Int) (c : Nat) : Prop := ∃ h, h < 64 ∧ h &&& e = 0 ∧ (pc h : Int) ≤ k ∧ ∀ s ∈ ms, s &&& (c ||| h) ≠ 0

theorem and_or {a b c : Nat} : a &&& (b ||| c) ≠ 0 ↔ a &&& b ≠ 0 ∨ a &&& c ≠ 0 := by
  rw [Nat.and_or_distrib_left]
  constructor
  · intro h
    by_cases h1 : a &&& b = 0
    · right; intro h2; rw [h1, h2] at h; exact h rfl
    · exact .inl h1
  · intro h h0
    have := Nat.or_eq_zero_iff.1 h0
    rcases h with h | h
    · exact h this.1
    · exact h this.2

/-- What a scan that has come to its end says. -/
theorem scan_spec (e c : Nat) : ∀ ms : List Nat, (∀ s ∈ ms, s < 64) →
    (∀ st, scan e c ms = some st → st.opn < 64 ∧ st.opn &&& c = 0 ∧ (0 < st.unm → st.opn ∈ ms) ∧ (st.unm = 0 → st.opn = 0 ∧ ∀ s ∈ ms, s &&& c ≠ 0) ∧
      (e < 64 → ∃ h, h < 64 ∧ h &&& e = 0 ∧ pc h ≤ st.unm ∧ ∀ s ∈ ms, s &&& (c ||| h) ≠ 0)) ∧
    (scan e c ms = none → e < 64 → ∃ s ∈ ms, s &&& c = 0 ∧ ∀ i, i < 6 → s.testBit i = true → e.testBit i = true) := by
  intro ms
  suffices hs : ∀ ms' : List Nat, (∀ s ∈ ms'.reverse, s < 64) → (∀ st, scan e c ms'.reverse = some st → st.opn < 64 ∧ st.opn &&& c = 0 ∧ (0 < st.unm → st.opn ∈ ms'.reverse) ∧ (st.unm = 0 → st.opn = 0 ∧ ∀ s ∈ ms'.reverse, s &&& c ≠ 0) ∧
      (e < 64 → ∃ h, h < 64 ∧ h &&& e = 0 ∧ pc h ≤ st.unm ∧ ∀ s ∈ ms'.reverse, s &&& (c ||| h) ≠ 0)) ∧
      (scan e c ms'.reverse = none → e < 64 → ∃ s ∈ ms'.reverse, s &&& c = 0 ∧ ∀ i, i < 6 → s.testBit i = true → e.testBit i = true) by
    have := hs ms.reverse
    rwa [List.reverse_reverse] at this
  intro ms'
  induction ms' with
  | nil =>
    intro _
    refine ⟨fun st h => ?_, fun h => ?_⟩
    · simp [scan] at h
      subst h
      exact ⟨by decide, by simp, fun h => by simp at h, fun _ => ⟨rfl, by simp⟩, fun _ => ⟨0, by decide, by simp, by decide, by simp⟩⟩
    · simp [scan] at h
  | cons s ms' ih =>
    intro hm
    rw [List.reverse_cons] at hm ⊢
    have hs : s < 64 := hm s (by simp)
    obtain ⟨ih1, ih2⟩ := ih (fun x hx => hm x (by simp at hx ⊢; exact .inl hx))
    rw [scan_snoc]
    have hfree : ∀ e, (he : e < 64) → pc s - pc (s &&& e) ≠ 0 → ∃ i, i < 6 ∧ s.testBit i = true ∧ e.testBit i = false := fun e he h => by
      obtain ⟨i, h⟩ := (free_iff ⟨s, hs⟩ ⟨e, he⟩).1 h
      exact ⟨i.val, i.isLt, h⟩
    -- one node of s more
    have more : e < 64 → pc s - pc (s &&& e) ≠ 0 → ∀ u h, h < 64 → h &&& e = 0 → pc h ≤ u → (∀ x ∈ ms'.reverse, x &&& (c ||| h) ≠ 0) →
        ∃ h, h < 64 ∧ h &&& e = 0 ∧ pc h ≤ u + 1 ∧ ∀ x ∈ ms'.reverse ++ [s], x &&& (c ||| h) ≠ 0 := by
      intro he hn u h hh hhe hhp hall
      obtain ⟨i, hi, hsi, hei⟩ := hfree e he hn
      refine ⟨h ||| 2 ^ i, or_lt' hh (bit_lt ⟨i, hi⟩), ?_, ?_, fun x hx => ?_⟩
      · apply Nat.eq_of_testBit_eq
        intro j
        have hj := congrArg (fun x => x.testBit j) hhe
        simp only [Nat.testBit_and, Nat.zero_testBit] at hj ⊢
        rw [Nat.testBit_or, Bool.and_or_distrib_right, hj, Nat.testBit_two_pow]
        by_cases e' : i = j
        · subst e'; simp [hei]
        · simp [e']
      · have := pc_or ⟨h, hh⟩ ⟨i, hi⟩
        simp only at this
        omega
      · rw [List.mem_append, List.mem_singleton] at hx
        rw [and_or]
        rcases hx with hx | rfl
        · rcases and_or.1 (hall x hx) with h1 | h1
          · exact .inl h1
          · exact .inr (and_or.2 (.inl h1))
        · right
          rw [and_or]
          right
          rw [meet hs (bit_lt ⟨i, hi⟩)]
          exact ⟨i, hi, hsi, by simp⟩
    cases hsc : scan e c ms'.reverse with
    | none =>
      refine ⟨fun st h => by simp [step] at h, fun _ he => ?_⟩
      obtain ⟨x, hx, h⟩ := ih2 hsc he
      exact ⟨x, by simp at hx ⊢; exact .inl hx, h⟩
    | some st0 =>
      obtain ⟨a1, a2, a3, a4, a5⟩ := ih1 st0 hsc
      simp only [step]
      by_cases hmeet : s &&& c ≠ 0
      · rw [if_pos hmeet]
        refine ⟨fun st h => ?_, fun h => by simp at h⟩
        simp only [Option.some.injEq] at h
        subst h
        refine ⟨a1, a2, fun h => by have := a3 h; simp at this ⊢; exact .inl this, fun h => ⟨(a4 h).1, fun x hx => ?_⟩, fun he => ?_⟩
        · rw [List.mem_append, List.mem_singleton] at hx
          rcases hx with hx | rfl
          · exact (a4 h).2 x hx
          · exact hmeet
        · obtain ⟨h, b1, b2, b3, b4⟩ := a5 he
          refine ⟨h, b1, b2, b3, fun x hx => ?_⟩
          rw [List.mem_append, List.mem_singleton] at hx
          rcases hx with hx | rfl
          · exact b4 x hx
          · exact and_or.2 (.inl hmeet)
      · rw [if_neg hmeet]
        have hmeet0 : s &&& c = 0 := by simpa using hmeet
        by_cases hn : pc s - pc (s &&& e) = 0
        · rw [if_pos hn]
          refine ⟨fun st h => by simp at h, fun _ he => ⟨s, by simp, hmeet0, fun i hi hsi => ?_⟩⟩
          cases hei : e.testBit i with
          | true => rfl
          | false => exact absurd hn ((free_iff ⟨s, hs⟩ ⟨e, he⟩).2 ⟨⟨i, hi⟩, hsi, hei⟩)
        · rw [if_neg hn]
          have fin : ∀ st : Scan, st.unm = st0.unm + 1 → (e < 64 → ∃ h, h < 64 ∧ h &&& e = 0 ∧ pc h ≤ st.unm ∧ ∀ x ∈ ms'.reverse ++ [s], x &&& (c ||| h) ≠ 0) := fun st hu he => by
            obtain ⟨h, b1, b2, b3, b4⟩ := a5 he
            rw [hu]
            exact more he hn st0.unm h b1 b2 b3 b4
          by_cases hlt : st0.unm = 0 ∨ pc s - pc (s &&& e) < st0.cho
          · rw [if_pos hlt]
            refine ⟨fun st h => ?_, fun h => by simp at h⟩
            simp only [Option.some.injEq] at h
            subst h
            exact ⟨hs, hmeet0, fun _ => by simp, fun h => by simp at h, fin _ rfl⟩
          · rw [if_neg hlt]
            refine ⟨fun st h => ?_, fun h => by simp at h⟩
            simp only [Option.some.injEq] at h
            subst h
            exact ⟨a1, a2, fun _ => by have := a3 (by omega); simp at this ⊢; exact .inl this, fun h => by simp at h, fin _ rfl⟩

theorem hit_iff (ms : List Nat) (hms : ∀ s ∈ ms, s < 64) (e : Nat) (he : e < 64) : ∀ (f : Nat) (k : Int) (c : Nat), c < 64 → 64 - c ≤ f → (hit ms e f k c = true ↔ Spec ms e k c)
  | 0, k, c, hc, hf => by omega
  | f + 1, k, c, hc, hf => by
    have ih := hit_iff ms hms e he f
    obtain ⟨s1, s2⟩ := scan_spec e c ms hms
    unfold hit
    cases hsc : scan e c ms with
    | none =>
      obtain ⟨s, hs, hsc0, hse⟩ := s2 hsc he
      simp only [Bool.false_eq_true, false_iff]
      rintro ⟨h, h1, h2, _, h4⟩
      rcases and_or.1 (h4 s hs) with h5 | h5
      · exact h5 hsc0
      · obtain ⟨i, hi, hsi, hhi⟩ := (meet (hms s hs) h1).1 h5
        have := congrArg (fun x => x.testBit i) h2
        simp only [Nat.testBit_and, Nat.zero_testBit, hhi, hse i hi hsi] at this
        cases this
    | some st =>
      obtain ⟨a1, a2, a3, a4, a5⟩ := s1 st hsc
      simp only
      by_cases hu : (st.unm : Int) ≤ k
      · rw [if_pos hu]
        simp only [true_iff]
        obtain ⟨h, h1, h2, h3, h4⟩ := a5 he
        exact ⟨h, h1, h2, by omega, h4⟩
      · rw [if_neg hu]
        by_cases hk : k = 0
        · rw [if_pos hk]
          simp only [Bool.false_eq_true, false_iff]
          rintro ⟨h, h1, _, h3, h4⟩
          have hz : h = 0 := pc_zero ⟨h, h1⟩ (by simp only; omega)
          have := h4 st.opn (a3 (by omega))
          rw [hz, Nat.or_zero] at this
          exact this a2
        · rw [if_neg hk, List.any_eq_true]
          clear a5 a4 s1 s2
          have nc : ∀ i, st.opn.testBit i = true → c.testBit i = false := fun i h => by
            have := congrArg (fun x => x.testBit i) a2
            simpa only [Nat.testBit_and, Nat.zero_testBit, h, Bool.true_and] using this
          constructor
          · rintro ⟨i, hi, hb⟩
            rw [List.mem_range] at hi
            simp only [Bool.and_eq_true, Bool.not_eq_true'] at hb
            obtain ⟨ho, hei, hr⟩ := hb
            have hg : c < c ||| 2 ^ i := grows ⟨c, hc⟩ ⟨i, hi⟩ (nc i ho)
            have hlt : c ||| 2 ^ i < 64 := or_lt' hc (bit_lt ⟨i, hi⟩)
            have hle : 64 - (c ||| 2 ^ i) ≤ f := by omega
            obtain ⟨h, h1, h2, h3, h4⟩ := (ih (k - 1) (c ||| 2 ^ i) hlt hle).1 hr
            refine ⟨h ||| 2 ^ i, or_lt' h1 (bit_lt ⟨i, hi⟩), ?_, ?_, fun s hs => ?_⟩
            · apply Nat.eq_of_testBit_eq
              intro j
              have hj := congrArg (fun x => x.testBit j) h2
              simp only [Nat.testBit_and, Nat.zero_testBit] at hj ⊢
              rw [Nat.testBit_or, Bool.and_or_distrib_right, hj, Nat.testBit_two_pow]
              by_cases e' : i = j
              · subst e'; simp [hei]
              · simp [e']
            · have := pc_or ⟨h, h1⟩ ⟨i, hi⟩
              simp only at this
              omega
            · have := h4 s hs
              rwa [Nat.or_assoc, Nat.or_comm (2 ^ i) h] at this
          · rintro ⟨h, h1, h2, h3, h4⟩
            have hpos : 0 < st.unm := by omega
            rcases and_or.1 (h4 st.opn (a3 hpos)) with h5 | h5
            · exact absurd a2 h5
            · obtain ⟨i, hi, hoi, hhi⟩ := (meet a1 h1).1 h5
              refine ⟨i, List.mem_range.2 hi, ?_⟩
              have hei : e.testBit i = false := by
                have := congrArg (fun x => x.testBit i) h2
                simpa only [Nat.testBit_and, Nat.zero_testBit, hhi, Bool.true_and] using this
              have hg : c < c ||| 2 ^ i := grows ⟨c, hc⟩ ⟨i, hi⟩ (nc i hoi)
              have hlt : c ||| 2 ^ i < 64 := or_lt' hc (bit_lt ⟨i, hi⟩)
              have hle : 64 - (c ||| 2 ^ i) ≤ f := by omega
              obtain ⟨g, g1, g2, g3⟩ := drop_bit ⟨h, h1⟩ ⟨i, hi⟩ hhi
              simp only at g1 g2 g3
              rw [hoi, hei]
              simp only [Bool.not_false, Bool.true_and]
              refine (ih (k - 1) (c ||| 2 ^ i) hlt hle).2 ⟨g.val, g.isLt, ?_, by omega, fun s hs => ?_⟩
              · rw [← g3, Nat.and_assoc, h2, Nat.and_zero]
              · rw [Nat.or_assoc, g2]; exact h4 s hs

theorem spec_mono {ms : List Nat} {e : Nat} {k k' : Int} {c : Nat} (h : Spec ms e k c) (hk : k ≤ k') : Spec ms e k' c := by
  obtain ⟨h, h1, h2, h3, h4⟩ := h
  exact ⟨h, h1, h2, by omega, h4⟩

theorem spec_less {ms : List Nat} {e e' : Nat} {k : Int} {c : Nat} (h : Spec ms (e ||| e') k c) : Spec ms e k c := by
  obtain ⟨h, h1, h2, h3, h4⟩ := h
  refine ⟨h, h1, ?_, h3, h4⟩
  rw [Nat.and_or_distrib_left] at h2
  exact (Nat.or_eq_zero_iff.1 h2).1

end Go.Proofs.Ybulkavmc.Hit

/-
  The plain mathematics of the bitset and of the blocks: no Go in sight.
-/
import Derived.Lib.TrailingZeros
namespace Go.Proofs.YbulkavloDoor.Pl

/-- The set that the words stand for holds offset j. -/
def has (ws : List Nat) (j : Nat) : Bool := (ws.getD (j / 64) 0).testBit (j % 64)

/-- One offset added. -/
def add (ws : List Nat) (i : Nat) : List Nat := ws.set (i / 64) (ws.getD (i / 64) 0 ||| 2 ^ (i % 64))

def Words (ws : List Nat) : Prop := ∀ x ∈ ws, x < 18446744073709551616

theorem words_getD {ws : List Nat} (h : Words ws) (i : Nat) : ws.getD i 0 < 18446744073709551616 := by
  rw [List.getD_eq_getElem?_getD]
  by_cases hi : i < ws.length
  · rw [List.getElem?_eq_getElem hi]; exact h _ (List.getElem_mem hi)
  · rw [List.getElem?_eq_none (by omega)]; decide

theorem words_zero (n : Nat) : Words (List.replicate n 0) := by
  intro x hx
  rw [List.mem_replicate] at hx
  omega

theorem or_lt {a : Nat} (ha : a < 18446744073709551616) (i : Nat) : a ||| 2 ^ (i % 64) < 18446744073709551616 :=
  Nat.or_lt_two_pow (n := 64) ha (Nat.pow_lt_pow_right (by decide) (Nat.mod_lt _ (by decide)))

theorem words_add {ws : List Nat} (h : Words ws) (i : Nat) : Words (add ws i) := by
  intro x hx
  rcases List.mem_or_eq_of_mem_set hx with hx | rfl
  · exact h x hx
  · exact or_lt (words_getD h _) i

theorem length_add (ws : List Nat) (i : Nat) : (add ws i).length = ws.length := by simp [add]

theorem has_zero (n j : Nat) : has (List.replicate n 0) j = false := by
  unfold has
  rw [List.getD_eq_getElem?_getD, List.getElem?_replicate]
  split <;> simp

theorem has_add {ws : List Nat} {i : Nat} (hi : i / 64 < ws.length) (j : Nat) : has (add ws i) j = (has ws j || decide (j = i)) := by
  unfold has add
  simp only [List.getD_eq_getElem?_getD]
  by_cases h : j / 64 = i / 64
  · rw [h, List.getElem?_set_self hi]
    simp only [Option.getD_some, Nat.testBit_or, Nat.testBit_two_pow]
    congr 1
    rw [decide_eq_decide]
    omega
  · rw [List.getElem?_set_ne (by omega)]
    have : decide (j = i) = false := by simp; intro e; subst e; exact h rfl
    rw [this, Bool.or_false]

/-- The lowest set bit. -/
theorem ctz_spec {x : Nat} (hx : x ≠ 0) (hlt : x < 18446744073709551616) :
    Lib.ctz 64 x < 64 ∧ x.testBit (Lib.ctz 64 x) = true ∧ ∀ b, b < Lib.ctz 64 x → x.testBit b = false := by
  obtain ⟨m, hm, hk⟩ := Lib.ctzFrom_spec 64 x (by omega) hlt
  have e : Lib.ctz 64 x = Lib.ctzFrom 64 x := by simp [Lib.ctz, hx]
  rw [e]
  generalize Lib.ctzFrom 64 x = c at *
  subst hm
  refine ⟨hk, ?_, fun b hb => ?_⟩
  · rw [Nat.mul_comm, Nat.testBit_mul_two_pow]
    simp
  · rw [Nat.mul_comm, Nat.testBit_mul_two_pow]
    simp; omega

theorem ctz_lt {x : Nat} (hx : x ≠ 0) (hlt : x < 18446744073709551616) : Lib.ctz 64 x < 64 := (ctz_spec hx hlt).1

theorem eq_zero_of_bits {x : Nat} (hlt : x < 18446744073709551616) (h : ∀ b, b < 64 → x.testBit b = false) : x = 0 := by
  apply Nat.eq_of_testBit_eq
  intro i
  rw [Nat.zero_testBit]
  by_cases hi : i < 64
  · exact h i hi
  · exact Nat.testBit_lt_two_pow (Nat.lt_of_lt_of_le hlt (Nat.pow_le_pow_right (n := 2) (by decide) (by omega : 64 ≤ i)))

/-! ### span -/
/-- The bits of word w that stand for the offsets from start up to end. -/
def span (w start fin : Nat) : Nat :=
  let a := if w = start / 64 then (18446744073709551615 * 2 ^ (start % 64)) % 18446744073709551616 else 18446744073709551615
  if fin < (w + 1) * 64 then a &&& 18446744073709551615 / 2 ^ (64 - fin % 64) else a

theorem ones_shl_bit (k b : Nat) (hk : k < 64) (hb : b < 64) : ((18446744073709551615 * 2 ^ k) % 18446744073709551616).testBit b = decide (k ≤ b) := by
  have e : (18446744073709551616 : Nat) = 2 ^ 64 := by decide
  have e1 : (18446744073709551615 : Nat) = 2 ^ 64 - 1 := by decide
  rw [e, Nat.testBit_mod_two_pow, Nat.testBit_mul_two_pow, e1, Nat.testBit_two_pow_sub_one]
  simp [hb]
  intro; omega

theorem ones_bit (b : Nat) (hb : b < 64) : (18446744073709551615 : Nat).testBit b = true := by
  have e1 : (18446744073709551615 : Nat) = 2 ^ 64 - 1 := by decide
  rw [e1, Nat.testBit_two_pow_sub_one]; simpa using hb

theorem ones_shr_bit (k b : Nat) (hk : k ≤ 64) : (18446744073709551615 / 2 ^ (64 - k)).testBit b = decide (b < k) := by
  have e1 : (18446744073709551615 : Nat) = 2 ^ 64 - 1 := by decide
  rw [← Nat.shiftRight_eq_div_pow, Nat.testBit_shiftRight, e1, Nat.testBit_two_pow_sub_one, decide_eq_decide]
  omega

theorem span_lt (w start fin : Nat) : span w start fin < 18446744073709551616 := by
  unfold span
  simp only
  have ha : (if w = start / 64 then (18446744073709551615 * 2 ^ (start % 64)) % 18446744073709551616 else 18446744073709551615) < 18446744073709551616 := by
    split
    · exact Nat.mod_lt _ (by decide)
    · decide
  split
  · exact Nat.lt_of_le_of_lt Nat.and_le_left ha
  · exact ha

theorem span_bit (w start fin b : Nat) (hb : b < 64) (hw : start / 64 ≤ w) (hf : w * 64 ≤ fin) :
    (span w start fin).testBit b = (decide (start ≤ w * 64 + b) && decide (w * 64 + b < fin)) := by
  have ha : (if w = start / 64 then (18446744073709551615 * 2 ^ (start % 64)) % 18446744073709551616 else 18446744073709551615).testBit b = decide (start ≤ w * 64 + b) := by
    split
    · rw [ones_shl_bit _ _ (Nat.mod_lt _ (by decide)) hb, decide_eq_decide]; omega
    · rw [ones_bit b hb]
      symm
      rw [decide_eq_true_iff]; omega
  unfold span
  simp only
  split
  · rw [Nat.testBit_and, ha, ones_shr_bit _ _ (by omega)]
    congr 1
    rw [decide_eq_decide]; omega
  · rw [ha]
    have : decide (w * 64 + b < fin) = true := by rw [decide_eq_true_iff]; omega
    rw [this, Bool.and_true]

/-! ### pastOnes -/
/-- The word of the offsets that begin a block of one. -/
def onesW (x nx : Nat) : Nat := x &&& (x / 2 ||| (nx * 2 ^ 63) % 18446744073709551616)

theorem shl63_bit (nx b : Nat) (hb : b < 64) : ((nx * 2 ^ 63) % 18446744073709551616).testBit b = (decide (b = 63) && nx.testBit 0) := by
  have e : (18446744073709551616 : Nat) = 2 ^ 64 := by decide
  rw [e, Nat.testBit_mod_two_pow, Nat.testBit_mul_two_pow]
  by_cases h : b = 63
  · subst h; simp
  · have : ¬ 63 ≤ b := by omega
    simp [h, this]

theorem onesW_bit (ws : List Nat) (hw : Words ws) (w b : Nat) (hb : b < 64) :
    (onesW (ws.getD w 0) (ws.getD (w + 1) 0)).testBit b = (has ws (w * 64 + b) && has ws (w * 64 + b + 1)) := by
  unfold onesW has
  rw [Nat.testBit_and, Nat.testBit_or, shl63_bit _ _ hb]
  have e1 : (w * 64 + b) / 64 = w := by omega
  have e2 : (w * 64 + b) % 64 = b := by omega
  rw [e1, e2]
  congr 1
  have hd : (ws.getD w 0 / 2).testBit b = (ws.getD w 0).testBit (b + 1) := by rw [Nat.testBit_succ]
  rw [hd]
  by_cases h : b = 63
  · subst h
    have e3 : (w * 64 + 63 + 1) / 64 = w + 1 := by omega
    have e4 : (w * 64 + 63 + 1) % 64 = 0 := by omega
    rw [e3, e4]
    have : (ws.getD w 0).testBit (63 + 1) = false := Nat.testBit_lt_two_pow (words_getD hw w)
    rw [this]; simp
  · have e3 : (w * 64 + b + 1) / 64 = w := by omega
    have e4 : (w * 64 + b + 1) % 64 = b + 1 := by omega
    rw [e3, e4]; simp [h]

theorem onesW_lt (ws : List Nat) (hw : Words ws) (w nx : Nat) : onesW (ws.getD w 0) nx < 18446744073709551616 :=
  Nat.lt_of_le_of_lt Nat.and_le_left (words_getD hw w)

/-- '^ones & span'. -/
def othersW (ws : List Nat) (w start n : Nat) : Nat := (18446744073709551615 ^^^ onesW (ws.getD w 0) (ws.getD (w + 1) 0)) &&& span w start (n + 1)

theorem not_bit {x b : Nat} (hb : b < 64) : (18446744073709551615 ^^^ x).testBit b = !x.testBit b := by
  rw [Nat.testBit_xor, ones_bit b hb]; simp

theorem othersW_bit (ws : List Nat) (hw : Words ws) (w start n b : Nat) (hb : b < 64) (h1 : start / 64 ≤ w) (h2 : w * 64 ≤ n) :
    (othersW ws w start n).testBit b = (!(has ws (w * 64 + b) && has ws (w * 64 + b + 1)) && (decide (start ≤ w * 64 + b) && decide (w * 64 + b < n + 1))) := by
  unfold othersW
  rw [Nat.testBit_and, not_bit hb, onesW_bit ws hw w b hb, span_bit w start (n + 1) b hb h1 (by omega)]

theorem othersW_lt (ws : List Nat) (w start n : Nat) : othersW ws w start n < 18446744073709551616 := Nat.lt_of_le_of_lt Nat.and_le_right (span_lt _ _ _)

/-- r is the first offset from start on that does not begin a block of one offset. -/
def IsPast (ws : List Nat) (n start r : Nat) : Prop :=
  start ≤ r ∧ r ≤ n ∧ (has ws r && has ws (r + 1)) = false ∧ ∀ j, start ≤ j → j < r → (has ws j && has ws (j + 1)) = true

theorem IsPast.unique {ws : List Nat} {n start r r' : Nat} (h : IsPast ws n start r) (h' : IsPast ws n start r') : r = r' := by
  obtain ⟨a1, a2, a3, a4⟩ := h
  obtain ⟨b1, b2, b3, b4⟩ := h'
  rcases Nat.lt_trichotomy r r' with h | h | h
  · have := b4 r a1 h; rw [a3] at this; cases this
  · exact h
  · have := a4 r' b1 h; rw [b3] at this; cases this

/-- What holds when the loop comes to word w. -/
def PastTo (ws : List Nat) (start w : Nat) : Prop := ∀ j, start ≤ j → j < w * 64 → (has ws j && has ws (j + 1)) = true

theorem past_found {ws : List Nat} (hw : Words ws) {w start n : Nat} (h1 : start / 64 ≤ w) (h2 : w * 64 ≤ n) (hp : PastTo ws start w) (hne : othersW ws w start n ≠ 0) :
    IsPast ws n start (w * 64 + Lib.ctz 64 (othersW ws w start n)) := by
  obtain ⟨hc, hb, hlow⟩ := ctz_spec hne (othersW_lt _ _ _ _)
  rw [othersW_bit ws hw w start n _ hc h1 h2] at hb
  simp only [Bool.and_eq_true, Bool.not_eq_true', decide_eq_true_eq] at hb
  obtain ⟨g1, g2, g3⟩ := hb
  refine ⟨g2, by omega, g1, fun j hj hlt => ?_⟩
  by_cases hjw : j < w * 64
  · exact hp j hj hjw
  · have := hlow (j - w * 64) (by omega)
    rw [othersW_bit ws hw w start n _ (by omega) h1 h2] at this
    have e : w * 64 + (j - w * 64) = j := by omega
    rw [e] at this
    have d1 : decide (start ≤ j) = true := decide_eq_true hj
    have d2 : decide (j < n + 1) = true := decide_eq_true (by omega)
    rw [d1, d2] at this
    simpa using this

theorem past_on {ws : List Nat} (hw : Words ws) {w start n : Nat} (h1 : start / 64 ≤ w) (h2 : w * 64 ≤ n) (hn : (has ws n && has ws (n + 1)) = false) (hs : start ≤ n) (hp : PastTo ws start w) (hz : othersW ws w start n = 0) :
    PastTo ws start (w + 1) ∧ (w + 1) * 64 ≤ n := by
  have hz' : ∀ b, b < 64 → (!(has ws (w * 64 + b) && has ws (w * 64 + b + 1)) && (decide (start ≤ w * 64 + b) && decide (w * 64 + b < n + 1))) = false := fun b hb => by
    rw [← othersW_bit ws hw w start n b hb h1 h2, hz, Nat.zero_testBit]
  have hlt : (w + 1) * 64 ≤ n := by
    apply Nat.le_of_not_lt
    intro hlt
    have := hz' (n - w * 64) (by omega)
    have e : w * 64 + (n - w * 64) = n := by omega
    rw [e, hn] at this
    simp at this
    omega
  refine ⟨fun j hj hlt' => ?_, hlt⟩
  by_cases hjw : j < w * 64
  · exact hp j hj hjw
  · have := hz' (j - w * 64) (by omega)
    have e : w * 64 + (j - w * 64) = j := by omega
    rw [e] at this
    have d1 : decide (start ≤ j) = true := decide_eq_true hj
    have d2 : decide (j < n + 1) = true := decide_eq_true (by omega)
    rw [d1, d2] at this
    simpa using this

theorem past_start (ws : List Nat) (start : Nat) : PastTo ws start (start / 64) := fun j hj hlt => by omega

/-! ### end -/
/-- r is the first offset from i on that the set holds. -/
def IsNext (ws : List Nat) (i r : Nat) : Prop := i ≤ r ∧ has ws r = true ∧ ∀ j, i ≤ j → j < r → has ws j = false

theorem IsNext.unique {ws : List Nat} {i r r' : Nat} (h : IsNext ws i r) (h' : IsNext ws i r') : r = r' := by
  obtain ⟨a1, a2, a3⟩ := h
  obtain ⟨b1, b2, b3⟩ := h'
  rcases Nat.lt_trichotomy r r' with h | h | h
  · have := b3 r a1 h; rw [a2] at this; cases this
  · exact h
  · have := a3 r' b1 h; rw [b2] at this; cases this

/-- The word that the loop of 'end' looks at when it has come to word w. -/
def endW (ws : List Nat) (i w : Nat) : Nat := if w = i / 64 then ws.getD w 0 &&& (18446744073709551615 * 2 ^ (i % 64)) % 18446744073709551616 else ws.getD w 0

theorem endW_lt (ws : List Nat) (hw : Words ws) (i w : Nat) : endW ws i w < 18446744073709551616 := by
  unfold endW
  split
  · exact Nat.lt_of_le_of_lt Nat.and_le_left (words_getD hw w)
  · exact words_getD hw w

theorem endW_bit (ws : List Nat) (i w b : Nat) (hb : b < 64) (h : i / 64 ≤ w) : (endW ws i w).testBit b = (has ws (w * 64 + b) && decide (i ≤ w * 64 + b)) := by
  unfold endW has
  have e1 : (w * 64 + b) / 64 = w := by omega
  have e2 : (w * 64 + b) % 64 = b := by omega
  rw [e1, e2]
  split
  · rw [Nat.testBit_and, ones_shl_bit _ _ (Nat.mod_lt _ (by decide)) hb]
    congr 1
    rw [decide_eq_decide]; omega
  · have : decide (i ≤ w * 64 + b) = true := decide_eq_true (by omega)
    rw [this, Bool.and_true]

/-- No offset from i up to word w's first is held. -/
def NextTo (ws : List Nat) (i w : Nat) : Prop := ∀ j, i ≤ j → j < w * 64 → has ws j = false

theorem next_start (ws : List Nat) (i : Nat) : NextTo ws i (i / 64) := fun j hj hlt => by omega

theorem next_found {ws : List Nat} (hw : Words ws) {i w : Nat} (h : i / 64 ≤ w) (hp : NextTo ws i w) (hne : endW ws i w ≠ 0) : IsNext ws i (w * 64 + Lib.ctz 64 (endW ws i w)) := by
  obtain ⟨hc, hb, hlow⟩ := ctz_spec hne (endW_lt ws hw i w)
  rw [endW_bit ws i w _ hc h] at hb
  simp only [Bool.and_eq_true, decide_eq_true_eq] at hb
  refine ⟨hb.2, hb.1, fun j hj hlt => ?_⟩
  by_cases hjw : j < w * 64
  · exact hp j hj hjw
  · have := hlow (j - w * 64) (by omega)
    rw [endW_bit ws i w _ (by omega) h] at this
    have e : w * 64 + (j - w * 64) = j := by omega
    rw [e] at this
    have d1 : decide (i ≤ j) = true := decide_eq_true hj
    rw [d1, Bool.and_true] at this
    exact this

theorem next_on {ws : List Nat} {i w n : Nat} (h : i / 64 ≤ w) (hp : NextTo ws i w) (hz : endW ws i w = 0) (hn : has ws n = true) (hi : i ≤ n) :
    NextTo ws i (w + 1) ∧ (w + 1) * 64 ≤ n := by
  have hz' : ∀ b, b < 64 → (has ws (w * 64 + b) && decide (i ≤ w * 64 + b)) = false := fun b hb => by
    rw [← endW_bit ws i w b hb h, hz, Nat.zero_testBit]
  have key : NextTo ws i (w + 1) := fun j hj hlt => by
    by_cases hjw : j < w * 64
    · exact hp j hj hjw
    · have := hz' (j - w * 64) (by omega)
      have e : w * 64 + (j - w * 64) = j := by omega
      rw [e] at this
      have d1 : decide (i ≤ j) = true := decide_eq_true hj
      rw [d1, Bool.and_true] at this
      exact this
  refine ⟨key, ?_⟩
  apply Nat.le_of_not_lt
  intro hlt
  have := key n hi hlt
  rw [hn] at this
  cases this

theorem has_lt {ws : List Nat} {j : Nat} (h : has ws j = true) : j / 64 < ws.length := by
  apply Nat.lt_of_not_le
  intro hle
  unfold has at h
  rw [List.getD_eq_getElem?_getD, List.getElem?_eq_none hle] at h
  simp at h

end Go.Proofs.YbulkavloDoor.Pl

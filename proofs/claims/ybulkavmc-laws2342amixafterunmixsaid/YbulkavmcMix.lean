/-
  The plain mathematics of the SplitMix64 finalizer: no Go in sight.
-/
namespace Go.Proofs.Ybulkavmc.Mix

/-- x ^ x>>s. -/
def xsh (s x : Nat) : Nat := x ^^^ x / 2 ^ s

/-- The loop of 'unshift', after i rounds. -/
def unsh (s y : Nat) : Nat → Nat
  | 0 => y
  | i + 1 => y ^^^ unsh s y i / 2 ^ s

theorem xor_div (a b s : Nat) : (a ^^^ b) / 2 ^ s = a / 2 ^ s ^^^ b / 2 ^ s := by
  simp only [← Nat.shiftRight_eq_div_pow]
  exact Nat.shiftRight_xor_distrib

theorem lt_xor {a b : Nat} (ha : a < 2 ^ 64) (hb : b < 2 ^ 64) : a ^^^ b < 2 ^ 64 := Nat.xor_lt_two_pow ha hb

theorem xor_cancel_left' (a b : Nat) : a ^^^ (a ^^^ b) = b := by rw [← Nat.xor_assoc, Nat.xor_self, Nat.zero_xor]

theorem eq_of_xor {a b : Nat} (h : a ^^^ b = 0) : a = b := by
  have := xor_cancel_left' a b
  rw [h, Nat.xor_zero] at this
  exact this

theorem div_pow_zero {a s : Nat} (ha : a < 2 ^ 64) (hs : 64 ≤ s) : a / 2 ^ s = 0 :=
  Nat.div_eq_of_lt (Nat.lt_of_lt_of_le ha (Nat.pow_le_pow_right (by decide) hs))

theorem unsh_diff (s x : Nat) : ∀ i, unsh s (xsh s x) i ^^^ x = (xsh s x ^^^ x) / 2 ^ (s * i)
  | 0 => by simp [unsh]
  | i + 1 => by
    have ih := unsh_diff s x i
    have e : unsh s (xsh s x) (i + 1) ^^^ x = (unsh s (xsh s x) i ^^^ x) / 2 ^ s := by
      rw [xor_div]
      show (xsh s x ^^^ unsh s (xsh s x) i / 2 ^ s) ^^^ x = _
      generalize unsh s (xsh s x) i / 2 ^ s = u
      unfold xsh
      generalize x / 2 ^ s = v
      rw [Nat.xor_assoc x v u, Nat.xor_comm x (v ^^^ u), Nat.xor_assoc (v ^^^ u) x x, Nat.xor_self, Nat.xor_zero, Nat.xor_comm]
    rw [e, ih, Nat.div_div_eq_div_mul, ← Nat.pow_add]
    congr 2

theorem unsh_xsh (s x i : Nat) (hx : x < 2 ^ 64) (hs : 64 ≤ s * i) : unsh s (xsh s x) i = x := by
  apply eq_of_xor
  rw [unsh_diff]
  apply div_pow_zero _ hs
  have : x / 2 ^ s < 2 ^ 64 := Nat.lt_of_le_of_lt (Nat.div_le_self _ _) hx
  exact lt_xor (lt_xor hx this) hx

theorem unsh_step (s y : Nat) : ∀ i, unsh s y (i + 1) ^^^ unsh s y i = (y / 2 ^ s) / 2 ^ (s * i)
  | 0 => by
    show (y ^^^ y / 2 ^ s) ^^^ y = _
    rw [Nat.xor_comm, xor_cancel_left']; simp
  | i + 1 => by
    have ih := unsh_step s y i
    have e : unsh s y (i + 1 + 1) ^^^ unsh s y (i + 1) = (unsh s y (i + 1) ^^^ unsh s y i) / 2 ^ s := by
      rw [xor_div]
      show (y ^^^ unsh s y (i + 1) / 2 ^ s) ^^^ (y ^^^ unsh s y i / 2 ^ s) = _
      generalize unsh s y (i + 1) / 2 ^ s = u
      generalize unsh s y i / 2 ^ s = v
      rw [Nat.xor_comm y u, Nat.xor_assoc, xor_cancel_left']
    rw [e, ih, Nat.div_div_eq_div_mul, ← Nat.pow_add]
    congr 2

theorem unsh_lt (s y : Nat) (hy : y < 2 ^ 64) : ∀ i, unsh s y i < 2 ^ 64
  | 0 => hy
  | i + 1 => lt_xor hy (Nat.lt_of_le_of_lt (Nat.div_le_self _ _) (unsh_lt s y hy i))

theorem xsh_lt (s y : Nat) (hy : y < 2 ^ 64) : xsh s y < 2 ^ 64 := lt_xor hy (Nat.lt_of_le_of_lt (Nat.div_le_self _ _) hy)

theorem xsh_unsh (s y i : Nat) (hy : y < 2 ^ 64) (hs : 64 ≤ s * i) : xsh s (unsh s y (i + 1)) = y := by
  have e : unsh s y (i + 1) = unsh s y i := by
    apply eq_of_xor
    rw [unsh_step]
    exact div_pow_zero (Nat.lt_of_le_of_lt (Nat.div_le_self _ _) hy) hs
  unfold xsh
  conv => lhs; rhs; rw [e]
  show (y ^^^ unsh s y i / 2 ^ s) ^^^ unsh s y i / 2 ^ s = y
  rw [Nat.xor_assoc, Nat.xor_self, Nat.xor_zero]

/-- The loop of 'inv', after i rounds. -/
def inv (a : Nat) : Nat → Nat
  | 0 => a
  | i + 1 => inv a i * ((2 + (18446744073709551616 - a * inv a i % 18446744073709551616)) % 18446744073709551616) % 18446744073709551616

def c1 : Nat := 13787848793156543929
def c2 : Nat := 10723151780598845931

theorem inv1 : c1 * inv c1 6 % 18446744073709551616 = 1 := by decide +kernel
theorem inv2 : c2 * inv c2 6 % 18446744073709551616 = 1 := by decide +kernel

def mix (x : Nat) : Nat := xsh 31 (xsh 27 (xsh 30 x * c1 % 18446744073709551616) * c2 % 18446744073709551616)
def unmix (y : Nat) : Nat := unsh 30 (unsh 27 (unsh 31 y 64 * inv c2 6 % 18446744073709551616) 64 * inv c1 6 % 18446744073709551616) 64

theorem mul_back (x c d : Nat) (hx : x < 18446744073709551616) (h : c * d % 18446744073709551616 = 1) :
    x * c % 18446744073709551616 * d % 18446744073709551616 = x := by
  rw [Nat.mod_mul_mod, Nat.mul_assoc, Nat.mul_mod, h]
  simp; exact hx

theorem mul_back' (x c d : Nat) (hx : x < 18446744073709551616) (h : c * d % 18446744073709551616 = 1) :
    x * d % 18446744073709551616 * c % 18446744073709551616 = x := mul_back x d c hx (by rw [Nat.mul_comm]; exact h)

theorem m_lt (a : Nat) : a % 18446744073709551616 < 2 ^ 64 := Nat.mod_lt _ (by decide)

theorem unmix_mix (x : Nat) (hx : x < 18446744073709551616) : unmix (mix x) = x := by
  unfold unmix mix
  rw [unsh_xsh 31 _ 64 (m_lt _) (by decide), mul_back _ c2 _ (xsh_lt _ _ (m_lt _)) inv2, unsh_xsh 27 _ 64 (m_lt _) (by decide),
    mul_back _ c1 _ (xsh_lt _ _ hx) inv1, unsh_xsh 30 _ 64 hx (by decide)]

theorem mix_unmix (y : Nat) (hy : y < 18446744073709551616) : mix (unmix y) = y := by
  unfold unmix mix
  rw [xsh_unsh 30 _ 63 (m_lt _) (by decide), mul_back' _ c1 _ (unsh_lt _ _ (m_lt _) _) inv1, xsh_unsh 27 _ 63 (m_lt _) (by decide),
    mul_back' _ c2 _ (unsh_lt _ _ hy _) inv2, xsh_unsh 31 _ 63 hy (by decide)]

theorem mix_inj (x y : Nat) (hx : x < 18446744073709551616) (hy : y < 18446744073709551616) (h : mix x = mix y) : x = y := by
  rw [← unmix_mix x hx, h, unmix_mix y hy]

theorem mix_lt (x : Nat) : mix x < 18446744073709551616 := xsh_lt 31 _ (m_lt _)
theorem unmix_lt (y : Nat) : unmix y < 18446744073709551616 := unsh_lt 30 _ (m_lt _) _
theorem inv_lt (a : Nat) (h : a < 18446744073709551616) : ∀ i, inv a i < 18446744073709551616
  | 0 => h
  | _ + 1 => Nat.mod_lt _ (by decide)

end Go.Proofs.Ybulkavmc.Mix

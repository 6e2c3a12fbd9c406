/-
  Sets of nodes as strings, four bytes a node: the plain functions, and what they answer at the 64 sets of the six nodes.
-/
import GoSem.Op.String
import Derived.Test.YbulkavmcHit
namespace Go.Proofs.Ybulkavmc.Sp
open Go.Op (bytesLess)

/-- Node i of a string. -/
def ck (l : List UInt8) (i : Nat) : List UInt8 := (l.drop (4 * i)).take 4

/-- Disjoint, from the places i and j on. -/
def dj (l r : List UInt8) : Nat → Nat → Nat → Bool
  | 0, _, _ => true
  | f + 1, i, j => if 4 * i < l.length ∧ 4 * j < r.length then (if (ck l i == ck r j) = true then false else if bytesLess (ck l i) (ck r j) = true then dj l r f (i + 1) j else dj l r f i (j + 1)) else true

/-- Common, from the places i and j on. -/
def cm (l r : List UInt8) : Nat → Nat → Nat → Nat
  | 0, _, _ => 0
  | f + 1, i, j => if 4 * i < l.length ∧ 4 * j < r.length then (if (ck l i == ck r j) = true then cm l r f (i + 1) (j + 1) + 1 else if bytesLess (ck l i) (ck r j) = true then cm l r f (i + 1) j else cm l r f i (j + 1)) else 0

/-- Has, from place i on. -/
def hs (l p : List UInt8) : Nat → Nat → Bool
  | 0, _ => false
  | f + 1, i => if 4 * i < l.length then (if (ck l i == p) = true then true else hs l p f (i + 1)) else false

/-- The place where With puts the node, from place i on. -/
def wp (l p : List UInt8) : Nat → Nat → Nat
  | 0, i => i
  | f + 1, i => if 4 * i < l.length ∧ bytesLess (ck l i) p = true then wp l p f (i + 1) else i

def withL (l p : List UInt8) : List UInt8 := l.take (4 * wp l p 7 0) ++ p ++ l.drop (4 * wp l p 7 0)

/-- The four bytes of node v. -/
def nb (v : Nat) : List UInt8 := [UInt8.ofNat (v / 16777216), UInt8.ofNat (v / 65536), UInt8.ofNat (v / 256), UInt8.ofNat v]

/-- The six nodes. -/
def nd (i : Nat) : Nat := [0, 1, 255, 256, 65536, 16777216].getD i 0

/-- The string of the set m. -/
def SL (m : Nat) : List UInt8 := ((List.range 6).filter fun i => m.testBit i).flatMap fun i => nb (nd i)

theorem len_tab : ∀ a : Fin 64, (SL a.val).length = 4 * Hit.pc a.val := by decide +kernel
theorem disj_tab : ∀ a b : Fin 64, dj (SL a.val) (SL b.val) 13 0 0 = decide (a.val &&& b.val = 0) := by decide +kernel
theorem common_tab : ∀ a b : Fin 64, cm (SL a.val) (SL b.val) 13 0 0 = Hit.pc (a.val &&& b.val) := by decide +kernel
theorem has_tab : ∀ a : Fin 64, ∀ i : Fin 6, hs (SL a.val) (nb (nd i.val)) 7 0 = a.val.testBit i.val := by decide +kernel
theorem with_tab : ∀ a : Fin 64, ∀ i : Fin 6, a.val.testBit i.val = false → withL (SL a.val) (nb (nd i.val)) = SL (a.val ||| 2 ^ i.val) := by decide +kernel
theorem nd_lt : ∀ i : Fin 6, nd i.val < 4294967296 := by decide +kernel

end Go.Proofs.Ybulkavmc.Sp

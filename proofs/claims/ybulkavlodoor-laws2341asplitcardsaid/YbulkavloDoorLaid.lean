/-
  What the rows' condition on math/bits.deBruijn64tab gives the walks; the start that meets it.
-/
import Derived.Test.YbulkavloDoorBase
import Derived.ProofKit
import Derived.LaidMore
import Derived.OpenShut
import Derived.Stop.Joined
import Derived.Lib.LaidTab
namespace Go.Proofs.YbulkavloDoor
open Go.ChangeShapes Go.WideShapes Go.ChangeAt Go.WideMaps Go.WideElems Go.RowKit

def theLaid : List (String × DataW Unit) := Rows.lawS2341COneRow.laid
/-- The table's name, as the rows have it. -/
def tabName : String := (theLaid.map Prod.fst).headD ""
def tabInts : List Int := Lib.deBruijn64tab.map fun x : Nat => (x : Int)

theorem own : ownKnob Ybad.prog.godebug = none := by kernel_rfl
theorem laidOut : laidOutB Ybad.prog = true := by kernel_rfl
theorem gTab : Ybad.prog.globalNamed tabName = some 0 := by kernel_rfl
theorem tTab : (Ybad.prog.globals[0]?).map (·.type) = some 45 := by kernel_rfl
theorem cells5 : Ybad.prog.cellsOf 5 = 1 := by kernel_rfl
theorem cells45 : Ybad.prog.cellsOf 45 = 64 := by kernel_rfl

theorem laid_eq : theLaid = [(tabName, Lib.tabData .u8 tabInts)] := by rfl

theorem tabInts_at (j : Nat) : tabInts.getD j 0 = ((Lib.deBruijn64tab.getD j 0 : Nat) : Int) := by
  unfold tabInts
  simp only [List.getD_eq_getElem?_getD, List.getElem?_map]
  cases Lib.deBruijn64tab[j]? <;> rfl

theorem tab_of_laid {W : World} (h : laidMetH Ybad.prog theLaid W) : Tab W := by
  rw [MakeChecks.laidMetH_plain _ _ _ (by kernel_rfl)] at h
  rw [laid_eq] at h
  have hT := Lib.tabIs_of_head gTab tTab Ybad.underlying45 Ybad.underlying5 cells5 cells45 h
  intro j hj
  have := hT.cell gTab j (by simpa [tabInts, Lib.deBruijn64tab] using hj)
  rw [this, tabInts_at]

/-- The door's own heap meets the condition. -/
theorem door_met (os : Os) (args : Array Value) : laidMetH Ybad.prog theLaid ((World.doorLaid Ybad.prog 400 os).forCall (fun _ _ => 0) ⟨#[], args, []⟩).memory :=
  laidMetH_of_parts3 (fuel := 8) (laidMet_of_run' 8 (by kernel_rfl) (by kernel_rfl)) (by kernel_rfl) (by kernel_rfl)

theorem Tab.below {w w' : World} (h : Tab w) (hb : Below w.heap.size w w') : Tab w' := fun j hj => cell_later hb (h j hj)

/-- What is known of a slice of bytes that came in: each element is a byte, read at its place. -/
def IsBytes (w : World) (a : Option Addr) (len : Nat) (zn : Nat → Nat) : Prop :=
  (∀ j, zn j < 256) ∧ ∀ k, k < len → ∃ b o, a = some ⟨b, o, none⟩ ∧ w.cell? ⟨b, o + k, none⟩ = some (.int .u8 ((zn k : Nat) : Int))

theorem isBytes_of {w : World} {x : Addr} {len : Nat} {zs : List Int} (hl : len ≤ zs.length) (hc : ∀ i, i < zs.length → w.cell? (x.add i) = some (.int .u8 (zs.getD i 0))) (hw : ∀ n ∈ zs, (Lit.int .u8 n).wf = true) :
    IsBytes w (some x) len (fun j => (zs.getD j 0).toNat) := by
  have hb : ∀ j, 0 ≤ zs.getD j 0 ∧ zs.getD j 0 < 256 := fun j => by
    rw [List.getD_eq_getElem?_getD]
    by_cases hj : j < zs.length
    · rw [List.getElem?_eq_getElem hj, Option.getD_some]
      have := bounds_u8 (hw _ (List.getElem_mem hj))
      omega
    · rw [List.getElem?_eq_none (by omega)]; decide
  refine ⟨fun j => by have := hb j; simp only; omega, fun k hk => ?_⟩
  have h := hc k (by omega)
  obtain ⟨b, o, sp⟩ := x
  have hsp : sp = none := by simpa [Addr.add] using World.cell?_spot (hc 0 (by omega))
  subst hsp
  refine ⟨b, o, rfl, ?_⟩
  have e : ((Int.toNat (zs.getD k 0) : Nat) : Int) = zs.getD k 0 := by have := hb k; omega
  rw [e, ← h, add_plain]

end Go.Proofs.YbulkavloDoor

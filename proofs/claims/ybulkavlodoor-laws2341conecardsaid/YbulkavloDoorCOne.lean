/-
  LawS2341COne: the walk, the row, the card.
-/
import Derived.Test.YbulkavloDoorLaid
import Derived.Test.YbulkavloDoorTie
import Derived.Test.YbulkavloDoorCards
import Derived.SevenTiedAt
import Derived.Below
namespace Go.Proofs.YbulkavloDoor.COne
open Go.ChangeShapes Go.WideShapes Go.ChangeAt Go.WideMaps Go.WideElems Go.RowKit

theorem walk_out (a : Int) (w : World) (h : a < 0 ∨ 1048576 < a) :
    Calls Ybad.prog 6 #[.int .i64 a] w fun e w' => e = .returned (.bool true) ∧ Below w.heap.size w w' := by
  by_cases h0 : a < 0
  · go_enter Ybad.func6, Ybad.ntmps6
    go_wp2_with fail
    go_ret
    exact ⟨rfl, Below.refl _ _⟩
  · have h1 : 1048576 < a := by omega
    go_enter Ybad.func6, Ybad.ntmps6
    go_wp2_with fail
    go_ret
    exact ⟨rfl, Below.refl _ _⟩

theorem walk_in (n : Nat) (w : World) (hn : n ≤ 1048576) :
    Calls Ybad.prog 6 #[.int .i64 n] w fun e w' => e = .returned (.bool true) ∧ Below w.heap.size w w' := by
  by_cases h2 : 2 ≤ n
  · go_enter Ybad.func6, Ybad.ntmps6
    go_wp2_with fail
    refine (one_any n w hn).mono ?_
    rintro e w1 ⟨rfl, ⟨m, hB⟩, hb, -⟩
    go_wp2_with fail
    refine (past_one _ n _ m _ hB).mono ?_
    rintro e w2 ⟨rfl, rfl⟩
    rw [if_pos (by omega)]
    go_wp2_with fail
    go_ret
    exact ⟨rfl, hb⟩
  · go_enter Ybad.func6, Ybad.ntmps6
    go_wp2_with fail
    refine (one_any n w hn).mono ?_
    rintro e w1 ⟨rfl, ⟨m, hB⟩, hb, -⟩
    go_wp2_with fail
    refine (past_one _ n _ m _ hB).mono ?_
    rintro e w2 ⟨rfl, rfl⟩
    rw [if_neg (by omega)]
    go_wp2_with fail
    go_ret
    exact ⟨rfl, hb⟩

theorem walk (a : Int) (w : World) :
    Calls Ybad.prog 6 #[.int .i64 a] w fun e w' => e = .returned (.bool true) ∧ Below w.heap.size w w' := by
  by_cases h : a < 0 ∨ 1048576 < a
  · exact walk_out a w h
  · obtain ⟨n, rfl⟩ := Int.eq_ofNat_of_zero_le (show 0 ≤ a by omega)
    exact walk_in n w (by omega)

set_option maxRecDepth 100000 in
theorem lifted (os : Os) (started : os.Started) (H : Type) (enc : TypeId × Value → H) :
    ReturnsInHanded {} Ybad.checked os 6 .any (fun w args => (Rows.lawS2341COneSpec.pre enc Ybad.prog Ybad.f6 [] false w args ∧ laidMetH Ybad.prog theLaid w) ∧ sizedMet enc Ybad.prog Ybad.f6 (OpenSpec.ofChange Rows.lawS2341COneSpec) false w args)
      (Rows.lawS2341COneSpec.post enc Ybad.prog Ybad.f6 false true false false) := by
  refine returnsInHanded_of_change_and (C := Ybad.checked) (X := fun w _ => laidMetH Ybad.prog theLaid w) (fun _ _ _ hh h => h.of_heap hh) own started (by kernel_rfl) Ybad.func6
    (ChangeSpec.witness_shaped (enc := enc) (C := Ybad.checked) (os := os) (X := fun w _ => laidMetH Ybad.prog theLaid w) false (World.doorLaid Ybad.prog 400 os) #[.int .i64 0] 8 rfl (World.shaped_of_RefB (by kernel_rfl) (by kernel_rfl)) (by kernel_rfl) (by kernel_rfl) (by kernel_rfl) (door_met os _)) ?_
  intro W base args ds gs before hval0 hW _ _ hL _
  have hval : ∀ (j : Nat) t v, Ybad.f6.params[j]? = some t → args[j]? = some v → Value.okWide Ybad.prog W .any base t v := hval0
  have hW' := hW
  obtain ⟨p, q, hA0, hV, rfl, hfz, hnd⟩ := hW
  have hA : DataW.TrodAll enc Ybad.prog W 0 (fun _ => true) true Ybad.f6.params.toList args.toList ds p := hA0
  rw [Ybad.params6] at hA hval
  obtain ⟨v0, d0, rfl, rfl, h0⟩ := trodAll_one hA
  obtain ⟨rfl, rfl⟩ := trodVars_none hV
  obtain ⟨a0, rfl, rfl, rfl, w0⟩ := open_int Ybad.underlying3 (hval 0 3 v0 rfl rfl) h0
  clear hA0 hval0 hL
  refine (walk a0 W).mono fun e W' ⟨he, bel⟩ => ?_
  subst he
  exact ⟨_, rfl, _, _, _, [], [], [], hW', trodAll_mk1 (shut_bool Ybad.underlying4 _), trodAll_mk1 (shut_int Ybad.underlying3 w0), rfl, bel.frame _, fun h => by cases h⟩

theorem row_holds : Rows.LawS2341COneSaid :=
  OpenClaim.holds_of_wide 6 Ybad.f6 rfl rfl rfl rfl rfl rfl rfl ⟨rfl, rfl, rfl, rfl, rfl⟩ rfl rfl rfl rfl rfl (by kernel_rfl) Ybad.func6 (by kernel_rfl)
    (of_decide_eq_true (by kernel_rfl)) (by unfold Func.isWrapper; first | (rw [if_pos (by decide +kernel)]; kernel_rfl) | (rw [if_neg (by decide +kernel)]; exact ⟨rfl, rfl⟩))
    (fun os started H enc _ => lifted os started H enc)

theorem card_holds : Rows.LawS2341COneCardSaid :=
  Claim7.holds_tied_plain_at .later [] [.data] true (true, "7f34d41de0e4ac9df70319223716e49a2a99cf05935404d0805969285ac33c5b") false
    row_holds (fun _ h => by cases h) (by kernel_rfl) (fun _ h => by cases h) lawS2341COne_row_tie rfl ⟨rfl, rfl⟩ (by kernel_rfl) rfl
    (fun f fn hf hfn => by
      obtain rfl : f = 6 := Option.some.inj ((show Ybad.prog.funcNamed Rows.lawS2341COneRow.func = some 6 by kernel_rfl).symm.trans hf) |>.symm
      obtain rfl : fn = Ybad.f6 := (Option.some.inj (Ybad.func6.symm.trans hfn)).symm
      exact ⟨by kernel_rfl, fun j t ht => by
        rw [Ybad.params6] at ht
        have hm : t ∈ [3] := by simpa using Array.mem_of_getElem? ht
        have hall : ([3].all fun u => !Ybad.prog.wantsStandIn u) = true := by kernel_rfl
        exact (show Ybad.prog.wantsStandIn t = false by simpa using List.all_eq_true.1 hall t hm)⟩)
    (by kernel_rfl)
#print axioms card_holds
end Go.Proofs.YbulkavloDoor.COne

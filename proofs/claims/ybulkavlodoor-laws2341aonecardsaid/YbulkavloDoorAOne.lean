/-
  LawS2341AOne: the walk, the row and the card.
-/
import Derived.Test.YbulkavloDoorPrev
import Derived.Test.YbulkavloDoorTie
import Derived.Test.YbulkavloDoorCards
import Derived.SevenTiedAt
import Derived.Below
namespace Go.Proofs.YbulkavloDoor.AOne
open Go.ChangeShapes Go.WideShapes Go.ChangeAt Go.WideMaps Go.WideElems Go.RowKit

theorem start_of (W : World) : IR (W.alloc (.cells #[.int .i64 0] 3)) W.heap.size 1 (fun _ => 0) := fun j hj => by
  obtain rfl : j = 0 := by omega
  rw [cell_of_row _ W.heap.size 0 _ 3 (0, 0) (heap_alloc_new W _)]
  rfl

theorem walk (a : Nat) (w : World) (ha : a < 65536) :
    Calls Ybad.prog 4 #[.int .u16 a] w fun e w' => e = .returned (.bool true) ∧ Below w.heap.size w w' := by
  obtain ⟨n, hn⟩ : ∃ n, a % 600 = n := ⟨_, rfl⟩
  have hn6 : n < 600 := by omega
  have hn' : (a : Int) % 600 = (n : Int) := by omega
  clear hn
  go_enter Ybad.func4, Ybad.ntmps4
  go_wp2_with fail
  refine (one_any n w (by omega)).mono ?_
  rintro e w1 ⟨rfl, ⟨m, hB⟩, hb, hsz⟩
  have hr := start_of w1
  have hb2 : Below w.heap.size w (w1.alloc (.cells #[.int .i64 0] 3)) := hb.alloc hb.size _
  have hB2 : Blk (w1.alloc (.cells #[.int .i64 0] 3)) (w.heap.size + 1) n (.slice none 0 0) w.heap.size m := (Below.heap_alloc w1 _ _ (by omega)).trans hB
  rw [hsz] at hr
  clear hB hb
  go_wp2_with fail
  generalize w1.alloc (.cells #[.int .i64 0] 3) = W at *
  go_loop [6] (fun v => ∃ i : Nat, i ≤ n ∧ v = .int .i64 i) (fun v => n - (intOf v).toNat)
  case atStart => exact ⟨0, Nat.zero_le _, rfl⟩
  case round =>
    obtain ⟨i, hi, rfl⟩ := hrel
    by_cases hlt : i < n
    · go_wp2_with fail
      refine (prev2_one _ n _ m i W hB2 hlt (by omega)).mono ?_
      rintro e w2 ⟨⟨p, q, rfl, hp, hq⟩, rfl⟩
      have HP : Hid (Pl.PrevOne n i p) := hp; clear hp
      have HQ : Hid (Pl.PrevOne n p q) := hq; clear hq
      go_wp2_with fail
      refine (zz_any _ 1 1 n i (fun _ => 0) _ hr hlt (by omega) (by omega) (Nat.le_refl _) rfl (fun j hj => by omega)).mono ?_
      rintro e w2 ⟨⟨r, rfl, hz⟩, rfl⟩
      obtain ⟨rfl, hpn⟩ := Pl.zz_one n i r p hlt hz HP.out
      clear hz
      go_wp2_with fail
      refine (zz_any _ 1 1 n p (fun _ => 0) _ hr hpn (by omega) (by omega) (Nat.le_refl _) rfl (fun j hj => by omega)).mono ?_
      rintro e w2 ⟨⟨r, rfl, hz⟩, rfl⟩
      obtain ⟨rfl, hqn⟩ := Pl.zz_one n p r q hpn hz HQ.out
      clear hz
      go_wp2_with fail
      go_round
      case rel => exact ⟨i + 1, by omega, by go_num⟩
      case measure => simp [intOf]; omega
    · go_wp2_with fail
      go_ret
      exact ⟨rfl, hb2⟩

set_option maxRecDepth 100000 in
theorem lifted (os : Os) (started : os.Started) (H : Type) (enc : TypeId × Value → H) :
    ReturnsInHanded {} Ybad.checked os 4 .any (fun w args => (Rows.lawS2341AOneSpec.pre enc Ybad.prog Ybad.f4 [] false w args ∧ laidMetH Ybad.prog theLaid w) ∧ sizedMet enc Ybad.prog Ybad.f4 (OpenSpec.ofChange Rows.lawS2341AOneSpec) false w args)
      (Rows.lawS2341AOneSpec.post enc Ybad.prog Ybad.f4 false true false false) := by
  refine returnsInHanded_of_change_and (C := Ybad.checked) (X := fun w _ => laidMetH Ybad.prog theLaid w) (fun _ _ _ hh h => h.of_heap hh) own started (by kernel_rfl) Ybad.func4
    (ChangeSpec.witness_shaped (enc := enc) (C := Ybad.checked) (os := os) (X := fun w _ => laidMetH Ybad.prog theLaid w) false (World.doorLaid Ybad.prog 400 os) #[.int .u16 0] 8 rfl (World.shaped_of_RefB (by kernel_rfl) (by kernel_rfl)) (by kernel_rfl) (by kernel_rfl) (by kernel_rfl) (door_met os _)) ?_
  intro W base args ds gs before hval0 hW _ _ hL _
  have hval : ∀ (j : Nat) t v, Ybad.f4.params[j]? = some t → args[j]? = some v → Value.okWide Ybad.prog W .any base t v := hval0
  have hW' := hW
  obtain ⟨p, q, hA0, hV, rfl, hfz, hnd⟩ := hW
  have hA : DataW.TrodAll enc Ybad.prog W 0 (fun _ => true) true Ybad.f4.params.toList args.toList ds p := hA0
  rw [Ybad.params4] at hA hval
  obtain ⟨v0, d0, rfl, rfl, h0⟩ := trodAll_one hA
  obtain ⟨rfl, rfl⟩ := trodVars_none hV
  obtain ⟨a0, rfl, rfl, rfl, w0⟩ := open_int Ybad.underlying22 (hval 0 22 v0 rfl rfl) h0
  clear hA0 hval0 hL
  have hb0 := bounds_u16 w0
  obtain ⟨n0, rfl⟩ := Int.eq_ofNat_of_zero_le hb0.1
  refine (walk n0 W (by omega)).mono fun e W' ⟨he, bel⟩ => ?_
  subst he
  exact ⟨_, rfl, _, _, _, [], [], [], hW', trodAll_mk1 (shut_bool Ybad.underlying4 _), trodAll_mk1 (shut_int Ybad.underlying22 w0), rfl, bel.frame _, fun h => by cases h⟩

theorem row_holds : Rows.LawS2341AOneSaid :=
  OpenClaim.holds_of_wide 4 Ybad.f4 rfl rfl rfl rfl rfl rfl rfl ⟨rfl, rfl, rfl, rfl, rfl⟩ rfl rfl rfl rfl rfl (by kernel_rfl) Ybad.func4 (by kernel_rfl)
    (of_decide_eq_true (by kernel_rfl)) (by unfold Func.isWrapper; first | (rw [if_pos (by decide +kernel)]; kernel_rfl) | (rw [if_neg (by decide +kernel)]; exact ⟨rfl, rfl⟩))
    (fun os started H enc _ => lifted os started H enc)

theorem card_holds : Rows.LawS2341AOneCardSaid :=
  Claim7.holds_tied_plain_at .later [] [.data] true (true, "7f34d41de0e4ac9df70319223716e49a2a99cf05935404d0805969285ac33c5b") false
    row_holds (fun _ h => by cases h) (by kernel_rfl) (fun _ h => by cases h) lawS2341AOne_row_tie rfl ⟨rfl, rfl⟩ (by kernel_rfl) rfl
    (fun f fn hf hfn => by
      obtain rfl : f = 4 := Option.some.inj ((show Ybad.prog.funcNamed Rows.lawS2341AOneRow.func = some 4 by kernel_rfl).symm.trans hf) |>.symm
      obtain rfl : fn = Ybad.f4 := (Option.some.inj (Ybad.func4.symm.trans hfn)).symm
      exact ⟨by kernel_rfl, fun j t ht => by
        rw [Ybad.params4] at ht
        have hm : t ∈ [22] := by simpa using Array.mem_of_getElem? ht
        have hall : ([22].all fun u => !Ybad.prog.wantsStandIn u) = true := by kernel_rfl
        exact (show Ybad.prog.wantsStandIn t = false by simpa using List.all_eq_true.1 hall t hm)⟩)
    (by kernel_rfl)
#print axioms card_holds
end Go.Proofs.YbulkavloDoor.AOne

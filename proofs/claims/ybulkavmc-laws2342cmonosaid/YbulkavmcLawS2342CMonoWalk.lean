/-
  LawS2342CMono: the walk.
-/
import Derived.Test.YbulkavmcBrute
namespace Go.Proofs.Ybulkavmc.Ns
open Go.RowKit

theorem law_wide (a0 : Option Addr) (len cap : Nat) (k : Int) (a2 a3 : Nat) (w : World) (h : 1024 < len ∨ 64 < k ∨ k < -64) :
    Calls Yba.prog 6 #[.slice a0 len cap, .int .i64 k, .int .u8 a2, .int .u8 a3] w fun e w' => e = .returned (.bool true) ∧ Below w.heap.size w w' := by
  by_cases h1 : 1024 < len
  · go_enter Yba.func6, Yba.ntmps6
    go_wp2_with fail
    go_ret
    exact ⟨rfl, Below.refl _ _⟩
  · by_cases h2 : 64 < k
    · clear h
      go_enter Yba.func6, Yba.ntmps6
      go_wp2_with fail
      go_ret
      exact ⟨rfl, Below.refl _ _⟩
    · have h3 : k < -64 := by omega
      clear h
      go_enter Yba.func6, Yba.ntmps6
      go_wp2_with fail
      go_ret
      exact ⟨rfl, Below.refl _ _⟩

/-- The plain law. -/
theorem hit_spec (zn : Nat → Nat) (len : Nat) (e : Nat) (he : e < 64) (k : Int) : Hit.hit (msk zn len) e 64 k 0 = true ↔ Hit.Spec (msk zn len) e k 0 :=
  Hit.hit_iff _ (msk_lt zn len) e he 64 k 0 (by decide) (by decide)

theorem mono_k (zn : Nat → Nat) (len e : Nat) (he : e < 64) (k : Int) (h : Hit.hit (msk zn len) e 64 k 0 = true) : Hit.hit (msk zn len) e 64 (k + 1) 0 = true :=
  (hit_spec zn len e he _).2 (Hit.spec_mono ((hit_spec zn len e he _).1 h) (by omega))

theorem mono_e (zn : Nat → Nat) (len e m : Nat) (he : e < 64) (hm : m < 64) (k : Int) (h : Hit.hit (msk zn len) (e ||| m) 64 k 0 = true) : Hit.hit (msk zn len) e 64 k 0 = true :=
  (hit_spec zn len e he _).2 (Hit.spec_less ((hit_spec zn len (e ||| m) (Hit.or_lt' he hm) _).1 h))

theorem brute_eq (zn : Nat → Nat) (len e : Nat) (he : e < 64) (k : Int) (b : Bool) (hb : b = true ↔ ∃ h, h < 64 ∧ Good zn len k e 0 h) : Hit.hit (msk zn len) e 64 k 0 = b := by
  rw [Bool.eq_iff_iff, hit_spec zn len e he, hb]
  constructor
  · rintro ⟨h, h1, h2, h3, h4⟩
    exact ⟨h, h1, h2, h3, fun j hj => h4 _ ((msk_mem zn len _).2 ⟨j, hj, rfl⟩)⟩
  · rintro ⟨h, h1, h2, h3, h4⟩
    refine ⟨h, h1, h2, h3, fun s hs => ?_⟩
    obtain ⟨j, hj, rfl⟩ := (msk_mem zn len s).1 hs
    exact h4 j hj

theorem cset_e (x : Int) (e : Nat) (w : World) (hx : x = (e : Int)) (he : e < 64) : Calls Yba.prog 11 #[.int .u8 x] w fun r w' => r = .returned (.string (str e)) ∧ Below w.heap.size w w' := by
  subst hx
  have h := cset_any e w (by omega)
  rw [Nat.mod_eq_of_lt he] at h
  exact h

theorem hit_e (zn : Nat → Nat) (len e : Nat) (k : Int) (g : Nat) (w : World) (hl : len ≤ 1024) (he : e < 64) (hk1 : -1000 ≤ k) (hk2 : k ≤ 1000) (hS : SetsAt w g (msk zn len)) :
    Calls Yba.prog 10 #[.slice (some ⟨g, 0, none⟩) len len, .int .i64 k, .string (str e)] w fun r w' => r = .returned (.bool (Hit.hit (msk zn len) e 64 k 0)) ∧ Below w.heap.size w w' := by
  have h := Hittable_any (msk zn len) (msk_lt zn len) (by rw [msk_len]; exact hl) e he k g len w hk1 hk2 hS
  rw [msk_len] at h
  exact h

set_option maxHeartbeats 2000000 in
theorem law_in (a0 : Option Addr) (len cap : Nat) (zn : Nat → Nat) (k : Int) (a2 a3 : Nat) (w : World) (hl : len ≤ 1024) (hk1 : -64 ≤ k) (hk2 : k ≤ 64) (h2 : a2 < 256) (h3 : a3 < 256) (hz : ∀ j, zn j < 256)
    (hc : ∀ k, k < len → ∃ b o, a0 = some ⟨b, o, none⟩ ∧ w.cell? ⟨b, o + k, none⟩ = some (.int .u8 ((zn k : Nat) : Int))) :
    Calls Yba.prog 6 #[.slice a0 len cap, .int .i64 k, .int .u8 a2, .int .u8 a3] w fun e w' => e = .returned (.bool true) ∧ Below w.heap.size w w' := by
  have HZ : Hid (∀ j, zn j < 256) := hz
  have HC : Hid (∀ W, Below w.heap.size w W → ∀ k, k < len → ∃ b o, a0 = some ⟨b, o, none⟩ ∧ W.cell? ⟨b, o + k, none⟩ = some (.int .u8 ((zn k : Nat) : Int))) := fun W hb k hk => by
    obtain ⟨b, o, e, h⟩ := hc k hk
    exact ⟨b, o, e, cell_later hb h⟩
  clear hz hc
  obtain ⟨e, hee⟩ : ∃ e, a2 % 64 = e := ⟨_, rfl⟩
  obtain ⟨m, hme⟩ : ∃ m, a3 % 64 = m := ⟨_, rfl⟩
  have he : e < 64 := by omega
  have hm : m < 64 := by omega
  have hei : (a2 : Int) % 64 = (e : Int) := by omega
  have hmi : (a3 : Int) % 64 = (m : Int) := by omega
  have hor : bits .or .u8 (e : Int) (m : Int) = ((e ||| m : Nat) : Int) := u8_or_nat _ _ (by omega) (by omega)
  have hem : e ||| m < 64 := Hit.or_lt' he hm
  clear hee hme
  go_enter Yba.func6, Yba.ntmps6
  go_wp2_with fail
  refine (csets_any a0 len cap zn w hl HZ.out (HC.out w (Below.refl _ _))).mono ?_
  rintro r w1 ⟨⟨g, rfl, hS1⟩, hb1⟩
  have HS : Hid (∀ W, Below w1.heap.size w1 W → SetsAt W g (msk zn len)) := fun W h => hS1.below h
  clear hS1
  go_wp2_with fail
  refine (cset_e _ e _ (by first | rfl | omega) he).mono ?_
  rintro r w2 ⟨rfl, hb2⟩
  go_wp2_with fail
  refine (hit_e zn len e k g _ hl he (by omega) (by omega) (HS.out _ hb2)).mono ?_
  rintro r w3 ⟨rfl, hb3⟩
  have b3 : Below w1.heap.size w1 w3 := hb2.trans (hb3.mono hb2.size)
  clear hb2 hb3
  go_wp2_with fail
  refine (cset_e _ e _ (by first | rfl | omega) he).mono ?_
  rintro r w4 ⟨rfl, hb4⟩
  have b4 : Below w1.heap.size w1 w4 := b3.trans (hb4.mono b3.size)
  clear hb4 b3
  go_wp2_with fail
  refine (hit_e zn len e (k + 1) g _ hl he (by omega) (by omega) (HS.out _ b4)).mono ?_
  rintro r w5 ⟨rfl, hb5⟩
  have b5 : Below w1.heap.size w1 w5 := b4.trans (hb5.mono b4.size)
  clear hb5 b4
  go_wp2_with fail
  refine (cset_e _ (e ||| m) _ (by first | rfl | omega) hem).mono ?_
  rintro r w6 ⟨rfl, hb6⟩
  have b6 : Below w1.heap.size w1 w6 := b5.trans (hb6.mono b5.size)
  clear hb6 b5
  go_wp2_with fail
  refine (hit_e zn len (e ||| m) k g _ hl hem (by omega) (by omega) (HS.out _ b6)).mono ?_
  rintro r w7 ⟨rfl, hb7⟩
  have b7 : Below w1.heap.size w1 w7 := b6.trans (hb7.mono b6.size)
  have bw : Below w.heap.size w w7 := hb1.trans (b7.mono hb1.size)
  clear hb7 b6 b7 hb1
  have HAB : Hid (Hit.hit (msk zn len) e 64 k 0 = true → Hit.hit (msk zn len) e 64 (k + 1) 0 = true) := mono_k zn len e he k
  have HCA : Hid (Hit.hit (msk zn len) (e ||| m) 64 k 0 = true → Hit.hit (msk zn len) e 64 k 0 = true) := mono_e zn len e m he hm k
  have HBE : Hid (∀ b : Bool, (b = true ↔ ∃ h, h < 64 ∧ Good zn len k e 0 h) → Hit.hit (msk zn len) e 64 k 0 = b) := brute_eq zn len e he k
  generalize Hit.hit (msk zn len) e 64 k 0 = A at *
  generalize Hit.hit (msk zn len) e 64 (k + 1) 0 = B at *
  generalize Hit.hit (msk zn len) (e ||| m) 64 k 0 = C at *
  have HBR : Hid (Calls Yba.prog 12 #[.slice a0 len cap, .int .i64 k, .int .u8 e, .int .u8 0] w7 fun r w' => BruteSays zn len k e 0 r ∧ w' = w7) :=
    brute_any a0 len cap zn k e 0 w7 hl he (by decide) HZ.out (HC.out w7 bw)
  have ways : (A = true ∧ B = true) ∨ (A = false ∧ C = false) := by
    cases A with
    | true => exact .inl ⟨rfl, HAB.out rfl⟩
    | false =>
      refine .inr ⟨rfl, ?_⟩
      cases hC : C with
      | false => rfl
      | true => exact absurd (HCA.out hC) (by simp)
  clear HAB HCA HS HC HZ
  rcases ways with ⟨rfl, rfl⟩ | ⟨rfl, rfl⟩
  · cases C
    all_goals
      go_wp2_with fail
      refine HBR.out.mono ?_
      rintro r w8 ⟨⟨b, rfl, hb⟩, rfl⟩
      obtain rfl := HBE.out b hb
      clear hb
      go_wp2_with fail
      go_ret
      exact ⟨rfl, bw⟩
  · cases B
    all_goals
      go_wp2_with fail
      refine HBR.out.mono ?_
      rintro r w8 ⟨⟨b, rfl, hb⟩, rfl⟩
      obtain rfl := HBE.out b hb
      clear hb
      go_wp2_with fail
      go_ret
      exact ⟨rfl, bw⟩

end Go.Proofs.Ybulkavmc.Ns

/-
  end, prev, prev2, the plain model zzs2341aprev: the walks.
-/
import Derived.Test.YbulkavloDoorSplit
import Derived.Test.YbulkavloDoorPlainPrev
namespace Go.Proofs.YbulkavloDoor
open Go.RowKit

theorem endW_first (x i : Nat) (hx : x < 18446744073709551616) : bits .and .u64 (x : Int) (IntKind.u64.wrap (18446744073709551615 * 2 ^ (i % 64))) = ((x &&& (18446744073709551615 * 2 ^ (i % 64)) % 18446744073709551616 : Nat) : Int) := by
  rw [shl_word, u64_and_nat _ _ hx (Nat.mod_lt _ (by decide))]

theorem end_one (B n N l i : Nat) (w : World) (hB : Blk w B n (.slice none 0 0) N l) :
    Calls Ybad.prog 19 #[.pointer (some ⟨B, 0, none⟩), .int .i64 i] w fun e w' => e = .returned (.int .i64 n) ∧ w' = w := by
  have h0 := hB.cell0
  have h1 := hB.cell1
  have hq := q37
  clear hB
  go_enter Ybad.func19, Ybad.ntmps19
  go_wp2_with fail
  go_ret
  exact ⟨rfl, rfl⟩

theorem prev_one (B n N l i : Nat) (w : World) (hB : Blk w B n (.slice none 0 0) N l) (hi : i < n) (hn : n ≤ 1000000) :
    Calls Ybad.prog 15 #[.pointer (some ⟨B, 0, none⟩), .int .i64 i] w fun e w' => (∃ p : Nat, e = .returned (.int .i64 p) ∧ Pl.PrevOne n i p) ∧ w' = w := by
  have h0 := hB.cell0
  have h1 := hB.cell1
  have hq := q37
  have hnq := nq37
  by_cases hz : i = 0
  · subst hz
    go_enter Ybad.func15, Ybad.ntmps15
    go_wp2_with fail
    refine (end_one B n N l 0 w hB).mono ?_
    rintro e w' ⟨rfl, rfl⟩
    go_wp2_with fail
    go_ret
    exact ⟨⟨n - 1, ret_int (by omega), .inl ⟨rfl, by omega⟩⟩, rfl⟩
  · have hz' : ((i : Int) == 0) = false := by simp; omega
    go_enter Ybad.func15, Ybad.ntmps15
    go_wp2_with fail
    go_ret
    exact ⟨⟨i - 1, ret_int (by omega), .inr ⟨by omega, by omega⟩⟩, rfl⟩

set_option maxHeartbeats 1000000 in
theorem end_any (B F N n i : Nat) (ws ns : List Nat) (w : World) (hs : St w B F N n ws ns) (hT : Tab w) (hi : i < n) (hn : n ≤ 1000000) (h1 : Pl.has ws n = true) :
    Calls Ybad.prog 19 #[.pointer (some ⟨B, 0, none⟩), .int .i64 i] w fun e w' => (∃ r : Nat, e = .returned (.int .i64 r) ∧ Pl.IsNext ws (i + 1) r) ∧ w' = w := by
  have hF := hs.roomF
  have b1 := hs.blk.cell1
  have hq := q37
  have H1 : Hid (Pl.has ws n = true) := h1; clear h1
  have hx := Pl.words_getD hs.wF ((i + 1) / 64)
  have cw := hs.rowF.cell (j := (i + 1) / 64) (by omega)
  have hE : Hid (Pl.endW ws (i + 1) ((i + 1) / 64) = ws.getD ((i + 1) / 64) 0 &&& (18446744073709551615 * 2 ^ ((i + 1) % 64)) % 18446744073709551616) := by
    show Pl.endW _ _ _ = _
    unfold Pl.endW; rw [if_pos rfl]
  obtain ⟨x, hxe⟩ : ∃ x, ws.getD ((i + 1) / 64) 0 = x := ⟨_, rfl⟩
  rw [hxe] at hx cw hE
  clear hxe
  have hw0 := endW_first x (i + 1) hx
  rw [← hE.out] at hw0
  go_enter Ybad.func19, Ybad.ntmps19
  go_wp2_with fail
  go_loop [5, 6] (fun v5 v6 => ∃ k : Nat, v5 = .int .u64 k ∧ v6 = .int .u64 (Pl.endW ws (i + 1) k : Nat) ∧ (i + 1) / 64 ≤ k ∧ k * 64 ≤ n ∧ Pl.NextTo ws (i + 1) k) (fun v _ => n - (intOf v).toNat)
  case atStart => exact ⟨(i + 1) / 64, by go_num, rfl, Nat.le_refl _, by omega, Pl.next_start ws (i + 1)⟩
  case round =>
    obtain ⟨k, rfl, rfl, hk1, hk2, hp⟩ := hrel
    clear cw hw0
    by_cases hz : Pl.endW ws (i + 1) k = 0
    · obtain ⟨hp', hk'⟩ := Pl.next_on hk1 hp hz H1.out (by omega)
      have cn := hs.rowF.cell (j := k + 1) (by omega)
      have hE1 : ws.getD (k + 1) 0 = Pl.endW ws (i + 1) (k + 1) := by
        unfold Pl.endW; rw [if_neg (by omega)]
      rw [hE1] at cn
      clear hE1
      rw [hz]
      go_wp2_with fail
      go_round
      case rel => exact ⟨k + 1, by go_num, rfl, by omega, hk', hp'⟩
      case measure => simp [intOf]; omega
    · have hf := Pl.next_found hs.wF hk1 hp hz
      have hlt := Pl.endW_lt ws hs.wF (i + 1) k
      have hct := Pl.ctz_lt hz hlt
      have HF : Hid (Pl.IsNext ws (i + 1) (k * 64 + Lib.ctz 64 (Pl.endW ws (i + 1) k))) := hf
      clear hf
      generalize Pl.endW ws (i + 1) k = E at *
      have hz' : ((E : Int) == 0) = false := by simp; omega
      go_wp2_with fail
      refine (tz_any E _ hlt hz hT).mono ?_
      rintro e w' ⟨rfl, rfl⟩
      generalize Lib.ctz 64 E = c at *
      go_wp2_with fail
      go_ret
      exact ⟨⟨k * 64 + c, ret_int (by omega), HF.out⟩, rfl⟩

theorem prev_any (B F N n i : Nat) (ws ns : List Nat) (w : World) (hs : St w B F N n ws ns) (hT : Tab w) (hi : i < n) (hn : n ≤ 1000000) (h1 : Pl.has ws n = true) (h0 : Pl.has ws 0 = true) :
    Calls Ybad.prog 15 #[.pointer (some ⟨B, 0, none⟩), .int .i64 i] w fun e w' => (∃ p : Nat, e = .returned (.int .i64 p) ∧ Pl.PrevIs ws i p ∧ p < n) ∧ w' = w := by
  have hF := hs.roomF
  have b1 := hs.blk.cell1
  have hq := q37
  have hnq := nq37
  have cw := hs.rowF.cell (j := i / 64) (by omega)
  have HN : Hid (Pl.has ws n = true) := h1; clear h1
  have H0 : Hid (Pl.has ws 0 = true) := h0; clear h0
  have HH := has_any F i ws.length _ w (Pl.words_getD hs.wF (i / 64)) (by omega) (by omega) cw
  change Calls Ybad.prog 18 _ w (fun e w' => e = .returned (.bool (Pl.has ws i)) ∧ w' = w) at HH
  have HHh : Hid (Calls Ybad.prog 18 #[.slice (some ⟨F, 0, none⟩) ws.length ws.length, .int .i64 i] w fun e w' => e = .returned (.bool (Pl.has ws i)) ∧ w' = w) := HH
  clear HH cw
  by_cases hb : Pl.has ws i = true
  · have HB : Hid (Pl.has ws i = true) := hb; clear hb
    go_enter Ybad.func15, Ybad.ntmps15
    go_wp2_with fail
    refine HHh.out.mono ?_
    rintro e w' ⟨rfl, rfl⟩
    rw [HB.out]
    go_wp2_with fail
    refine (end_any B F N n i ws ns _ hs hT hi hn HN.out).mono ?_
    rintro e w' ⟨⟨r, rfl, hr⟩, rfl⟩
    have hr1 : i + 1 ≤ r := hr.1
    have hrn : r ≤ n := by
      apply Nat.le_of_not_lt
      intro hlt
      have := hr.2.2 n (by omega) hlt
      rw [HN.out] at this
      cases this
    have HR : Hid (Pl.IsNext ws (i + 1) (r - 1 + 1)) := by
      show Pl.IsNext ws (i + 1) (r - 1 + 1)
      rw [show r - 1 + 1 = r by omega]; exact hr
    clear hr
    go_wp2_with fail
    go_ret
    exact ⟨⟨r - 1, ret_int (by omega), .inl ⟨HB.out, HR.out⟩, by omega⟩, rfl⟩
  · have HB : Hid (Pl.has ws i = false) := by show _ = false; simpa using hb
    have hi0 : 0 < i := by
      apply Nat.pos_of_ne_zero
      intro e
      rw [e] at hb
      exact hb H0.out
    clear hb
    go_enter Ybad.func15, Ybad.ntmps15
    go_wp2_with fail
    refine HHh.out.mono ?_
    rintro e w' ⟨rfl, rfl⟩
    rw [HB.out]
    go_wp2_with fail
    go_ret
    exact ⟨⟨i - 1, ret_int (by omega), .inr ⟨HB.out, by omega⟩, by omega⟩, rfl⟩

theorem prev2_any (B F N n i : Nat) (ws ns : List Nat) (w : World) (hs : St w B F N n ws ns) (hT : Tab w) (hi : i < n) (hn : n ≤ 1000000) (h1 : Pl.has ws n = true) (h0 : Pl.has ws 0 = true) :
    Calls Ybad.prog 9 #[.pointer (some ⟨B, 0, none⟩), .int .i64 i] w fun e w' => (∃ p q : Nat, e = .returned (.tuple #[.int .i64 p, .int .i64 q]) ∧ Pl.PrevIs ws i p ∧ Pl.PrevIs ws p q) ∧ w' = w := by
  have HN : Hid (Pl.has ws n = true) := h1; clear h1
  have H0 : Hid (Pl.has ws 0 = true) := h0; clear h0
  go_enter Ybad.func9, Ybad.ntmps9
  go_wp2_with fail
  refine (prev_any B F N n i ws ns w hs hT hi hn HN.out H0.out).mono ?_
  rintro e w' ⟨⟨p, rfl, hp, hpn⟩, rfl⟩
  have HP : Hid (Pl.PrevIs ws i p) := hp; clear hp
  go_wp2_with fail
  refine (prev_any B F N n p ws ns _ hs hT hpn hn HN.out H0.out).mono ?_
  rintro e w' ⟨⟨q, rfl, hq, hqn⟩, rfl⟩
  have HQ : Hid (Pl.PrevIs ws p q) := hq; clear hq
  go_wp2_with fail
  go_ret2
  exact ⟨⟨p, q, rfl, HP.out, HQ.out⟩, rfl⟩

theorem prev2_one (B n N l i : Nat) (w : World) (hB : Blk w B n (.slice none 0 0) N l) (hi : i < n) (hn : n ≤ 1000000) :
    Calls Ybad.prog 9 #[.pointer (some ⟨B, 0, none⟩), .int .i64 i] w fun e w' => (∃ p q : Nat, e = .returned (.tuple #[.int .i64 p, .int .i64 q]) ∧ Pl.PrevOne n i p ∧ Pl.PrevOne n p q) ∧ w' = w := by
  go_enter Ybad.func9, Ybad.ntmps9
  go_wp2_with fail
  refine (prev_one B n N l i w hB hi hn).mono ?_
  rintro e w' ⟨⟨p, rfl, hp⟩, rfl⟩
  have hpn : p < n := by unfold Pl.PrevOne at hp; omega
  have HP : Hid (Pl.PrevOne n i p) := hp; clear hp
  go_wp2_with fail
  refine (prev_one B n N l p _ hB hpn hn).mono ?_
  rintro e w' ⟨⟨q, rfl, hq⟩, rfl⟩
  have HQ : Hid (Pl.PrevOne n p q) := hq; clear hq
  go_wp2_with fail
  go_ret2
  exact ⟨⟨p, q, rfl, HP.out, HQ.out⟩, rfl⟩

/-- Block g begins with the numbers h 0 .. h (L - 1). -/
def IR (w : World) (g L : Nat) (h : Nat → Nat) : Prop := ∀ j, j < L → w.cell? ⟨g, j, none⟩ = some (.int .i64 ((h j : Nat) : Int))
theorem IR.below {w w' : World} {g L : Nat} {h : Nat → Nat} (hr : IR w g L h) (hb : Below w.heap.size w w') : IR w' g L h := fun j hj => cell_later hb (hr j hj)
theorem IR.upd {w w' : World} {S : List Nat} {g L : Nat} {h : Nat → Nat} (hr : IR w g L h) (hb : Upd S w w') (hg : g ∉ S) : IR w' g L h := fun j hj =>
  (World.cell?_of_block (w := w) (a := ⟨g, j, none⟩) (hb.block g hg)).trans (hr j hj)

theorem zz_any (g L cap n i : Nat) (h : Nat → Nat) (w : World) (hr : IR w g L h) (hi : i < n) (hn : n ≤ 1000000) (hL : L ≤ 1000000) (hL1 : 1 ≤ L) (h00 : h 0 = 0) (hh : ∀ j, j < L → h j < n) :
    Calls Ybad.prog 10 #[.slice (some ⟨g, 0, none⟩) L cap, .int .i64 n, .int .i64 i] w fun e w' => (∃ r : Nat, e = .returned (.int .i64 r) ∧ Pl.ZzIs h L n i r) ∧ w' = w := by
  have H00 : Hid (h 0 = 0) := h00; clear h00
  have HH : Hid (∀ j, j < L → h j < n) := hh; clear hh
  go_enter Ybad.func10, Ybad.ntmps10
  go_wp2_with fail
  go_loop [7, 8, 9] (fun v7 v8 v9 => ∃ j : Nat, j ≤ L ∧ v9 = .int .i64 j ∧ v7 = .int .i64 (Pl.sOf h j : Nat) ∧ v8 = .int .i64 n ∧ ∀ t, t < j → h t ≤ i) (fun _ _ v => L - (intOf v).toNat)
  case atStart => exact ⟨0, Nat.zero_le _, rfl, rfl, rfl, fun t ht => by omega⟩
  case round =>
    obtain ⟨j, hj, rfl, rfl, rfl, hle⟩ := hrel
    have HL : Hid (∀ t, t < j → h t ≤ i) := hle; clear hle
    have hs : Pl.sOf h j ≤ i := by
      cases j with
      | zero => exact Nat.zero_le _
      | succ j => exact HL.out j (by omega)
    by_cases hjl : j < L
    · have hc := hr j hjl
      have hhj := HH.out j hjl
      by_cases hji : h j ≤ i
      · go_wp2_with fail
        go_round
        case rel =>
          refine ⟨j + 1, by omega, by go_num, rfl, rfl, fun t ht => ?_⟩
          by_cases e : t = j
          · subst e; exact hji
          · exact HL.out t (by omega)
        case measure => simp [intOf]; omega
      · have hj0 : j ≠ 0 := by
          intro e; subst e; rw [H00.out] at hji; omega
        have hjL : ¬ j = L := by omega
        have Z : Hid (∀ r : Nat, ((i = Pl.sOf h j ∧ r + 1 = h j) ∨ (i ≠ Pl.sOf h j ∧ r + 1 = i)) → Pl.ZzIs h L n i r) := fun r hrr => ⟨j, hj, HL.out, .inr (by omega), by rw [if_neg hjL]; exact hrr⟩
        generalize Pl.sOf h j = s at *
        by_cases his : i = s
        · subst his
          go_wp2_with fail
          go_ret
          exact ⟨⟨h j - 1, ret_int (by omega), Z.out _ (.inl ⟨by simp, by omega⟩)⟩, rfl⟩
        · have his' : ((i : Int) == (s : Int)) = false := by simp; omega
          go_wp2_with fail
          go_ret
          exact ⟨⟨i - 1, ret_int (by omega), Z.out _ (.inr ⟨his, by omega⟩)⟩, rfl⟩
    · obtain rfl : L = j := by omega
      have Z : Hid (∀ r : Nat, ((i = Pl.sOf h L ∧ r + 1 = n) ∨ (i ≠ Pl.sOf h L ∧ r + 1 = i)) → Pl.ZzIs h L n i r) := fun r hrr => ⟨L, hj, HL.out, .inl rfl, by rw [if_pos rfl]; exact hrr⟩
      generalize Pl.sOf h L = s at *
      by_cases his : i = s
      · subst his
        go_wp2_with fail
        go_ret
        exact ⟨⟨n - 1, ret_int (by omega), Z.out _ (.inl ⟨by simp, by omega⟩)⟩, rfl⟩
      · have his' : ((i : Int) == (s : Int)) = false := by simp; omega
        go_wp2_with fail
        go_ret
        exact ⟨⟨i - 1, ret_int (by omega), Z.out _ (.inr ⟨his, by omega⟩)⟩, rfl⟩

end Go.Proofs.YbulkavloDoor

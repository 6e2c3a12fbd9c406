/-
  The split blocks: unsplit, begin, pastOnes.
-/
import Derived.Test.YbulkavloDoorLaid
import Derived.Deep.QuietTactic
import Derived.BigQuiet
namespace Go.Proofs.YbulkavloDoor
open Go.RowKit

/-- What a struct 'blocks' of a split string holds: its length n, the words of 'first' in block F, those of 'near' in block N. -/
structure St (w : World) (B F N n : Nat) (ws ns : List Nat) : Prop where
  blk : Blk w B n (.slice (some ⟨F, 0, none⟩) ws.length ws.length) N ns.length
  rowF : Row w F ws
  rowN : Row w N ns
  wF : Pl.Words ws
  wN : Pl.Words ns
  roomF : n / 64 < ws.length
  roomN : n / 4096 / 64 < ns.length
  bf : B ≠ F
  bn : B ≠ N
  fn : F ≠ N

theorem St.upd {w w' : World} {B F N n : Nat} {ws ns : List Nat} {S : List Nat} (h : St w B F N n ws ns) (hu : Upd S w w') (h1 : B ∉ S) (h2 : F ∉ S) (h3 : N ∉ S) : St w' B F N n ws ns :=
  ⟨hu.blk h.blk h1, hu.row h.rowF h2, hu.row h.rowN h3, h.wF, h.wN, h.roomF, h.roomN, h.bf, h.bn, h.fn⟩

/-- unsplit. -/
theorem unsplit_any (n : Nat) (w : World) (hn : n ≤ 1000000) :
    Calls Ybad.prog 7 #[.int .i64 n] w fun e w' => e = .returned (.pointer (some ⟨w.heap.size + 2, 0, none⟩)) ∧
      (∃ ns, St w' (w.heap.size + 2) w.heap.size (w.heap.size + 1) n (Pl.add (List.replicate (n / 64 + 1) 0) n) ns) ∧ Below w.heap.size w w' ∧ w'.heap.size = w.heap.size + 3 := by
  obtain ⟨m, hm⟩ : ∃ m, n / 64 + 1 = m := ⟨_, rfl⟩
  obtain ⟨l, hl⟩ : ∃ l, (n / 4096 + 1 + 63) / 64 = l := ⟨_, rfl⟩
  rw [hm]
  have HM : Hid (n / 64 + 1 = m) := hm; clear hm
  have HL : Hid ((n / 4096 + 1 + 63) / 64 = l) := hl; clear hl
  go_enter Ybad.func7, Ybad.ntmps7
  go_wp2_with fail
  refine (new_any _ (n + 1) m _ (by omega) (by omega) (by have := HM.out; omega)).mono ?_
  rintro e w' ⟨rfl, rfl⟩
  go_wp2_with fail
  refine (new_any _ (n / 4096 + 1) l _ (by omega) (by omega) HL.out).mono ?_
  rintro e w' ⟨rfl, rfl⟩
  go_wp2_with fail
  obtain ⟨W, hW⟩ : ∃ W, W = (((w.alloc (Obj.cells (rowOf (List.replicate m 0)) 42)).alloc (Obj.cells (rowOf (List.replicate l 0)) 42)).alloc
      (Obj.cells #[Value.int IntKind.i64 ↑n, Value.slice (some { block := w.heap.size, off := 0 }) m m, Value.slice (some { block := w.heap.size + 1, off := 0 }) l l, Value.int IntKind.i64 (-1)] 41)) := ⟨_, rfl⟩
  have hr0 : Row W w.heap.size (List.replicate m 0) := by rw [hW]; exact ((row_new w _).alloc _).alloc _
  have hr1 : Row W (w.heap.size + 1) (List.replicate l 0) := by
    have := row_new (w.alloc (Obj.cells (rowOf (List.replicate m 0)) 42)) (List.replicate l 0)
    rw [World.size_alloc] at this
    rw [hW]; exact this.alloc _
  have hb : Blk W (w.heap.size + 2) n (.slice (some ⟨w.heap.size, 0, none⟩) m m) (w.heap.size + 1) l := by
    have := heap_alloc_new ((w.alloc (Obj.cells (rowOf (List.replicate m 0)) 42)).alloc (Obj.cells (rowOf (List.replicate l 0)) 42)) (Obj.cells #[Value.int IntKind.i64 ↑n, Value.slice (some { block := w.heap.size, off := 0 }) m m, Value.slice (some { block := w.heap.size + 1, off := 0 }) l l, Value.int IntKind.i64 (-1)] 41)
    rw [World.size_alloc, World.size_alloc] at this
    rw [hW]; exact this
  have hbel : Below w.heap.size w W := by
    rw [hW]
    exact (((Below.refl _ w).alloc (Nat.le_refl _) _).alloc (by simp) _).alloc (by simp; omega) _
  have hsz : W.heap.size = w.heap.size + 3 := by rw [hW]; simp
  rw [← hW]
  clear hW
  refine (add_row w.heap.size m _ n (List.replicate m 0) _ hr0 (by simp) (Pl.words_zero m) rfl (by have := HM.out; omega) (by omega)).mono ?_
  rintro e w' ⟨rfl, hr, hu⟩
  have fin : (∃ ns, St w' (w.heap.size + 2) w.heap.size (w.heap.size + 1) n (Pl.add (List.replicate m 0) n) ns) ∧ Below w.heap.size w w' ∧ w'.heap.size = w.heap.size + 3 := by
    refine ⟨⟨List.replicate l 0, ?_, hr, hu.row hr1 (by simp), Pl.words_add (Pl.words_zero m) n, Pl.words_zero l, ?_, ?_, by omega, by omega, by omega⟩, hbel.trans (hu.below (by simp)), hu.size.trans hsz⟩
    · have := hu.blk hb (by simp)
      simpa [Pl.length_add] using this
    · rw [Pl.length_add]; simp; have := HM.out; omega
    · simp; have := HL.out; omega
  have FIN : Hid ((∃ ns, St w' (w.heap.size + 2) w.heap.size (w.heap.size + 1) n (Pl.add (List.replicate m 0) n) ns) ∧ Below w.heap.size w w' ∧ w'.heap.size = w.heap.size + 3) := fin
  clear fin hr hu hb hbel hsz hr0 hr1
  go_wp2
  go_ret
  exact ⟨rfl, FIN.out⟩

/-- begin. -/
theorem begin_any (B F N n : Nat) (a : Int) (i : Nat) (ws ns : List Nat) (w : World) (hs : St w B F N n ws ns) (ha : a = (i : Int)) (hi : i < n) (hn : n ≤ 1000000) :
    Calls Ybad.prog 8 #[.pointer (some ⟨B, 0, none⟩), .int .i64 a] w fun e w' => e = .returned (.tuple #[]) ∧ (∃ ns', St w' B F N n (Pl.add ws i) ns') ∧ Upd [F, N] w w' := by
  subst ha
  have hN := hs.roomN
  have hF := hs.roomF
  have b1 := hs.blk.cell1
  have b2 := hs.blk.cell2
  go_enter Ybad.func8, Ybad.ntmps8
  go_wp2_with fail
  refine (add_row F ws.length _ i ws _ hs.rowF rfl hs.wF rfl (by omega) (by omega)).mono ?_
  rintro e w1 ⟨rfl, hr1, hu1⟩
  have k1 := hu1.blk hs.blk (by simpa using hs.bf)
  have k1n := hu1.row hs.rowN (by simpa using fun h => hs.fn h.symm)
  have c2 := k1.cell2
  clear b1 b2
  go_wp2_with fail
  refine (add_row N ns.length _ (i / 4096) ns _ k1n rfl hs.wN (by omega) (by omega) (by omega)).mono ?_
  rintro e w2 ⟨rfl, hr2, hu2⟩
  have k2 := hu2.blk k1 (by simpa using hs.bn)
  have c3 := k2.cell2
  clear c2
  go_wp2_with fail
  refine (add_row N ns.length _ ((i + 1) / 4096) _ _ hr2 (Pl.length_add _ _) (Pl.words_add hs.wN _) (by omega) (by omega) (by omega)).mono ?_
  rintro e w3 ⟨rfl, hr3, hu3⟩
  have k3 := hu3.blk k2 (by simpa using hs.bn)
  have f3 := hu3.row (hu2.row hr1 (by simpa using hs.fn)) (by simpa using hs.fn)
  have U : Hid (Upd [F, N] w w3) := ((hu1.mono (by simp)).trans (hu2.mono (by simp))).trans (hu3.mono (by simp))
  have SS : Hid (St w3 B F N n (Pl.add ws i) (Pl.add (Pl.add ns (i / 4096)) ((i + 1) / 4096))) :=
    ⟨by simpa [Pl.length_add] using k3, f3, hr3, Pl.words_add hs.wF _, Pl.words_add (Pl.words_add hs.wN _) _, by rw [Pl.length_add]; exact hs.roomF, by rw [Pl.length_add, Pl.length_add]; exact hs.roomN, hs.bf, hs.bn, hs.fn⟩
  clear c3 hu1 hu2 hu3 k1 k2 k3 k1n f3 hr1 hr2 hr3
  go_wp2
  go_end0
  exact ⟨rfl, ⟨_, SS.out⟩, U.out⟩

theorem upd_drewN {S : List Nat} {a w : World} (h : Upd S a w) (n : Nat) : Upd S a (w.drewN n) := ⟨h.os, h.tape, h.output, h.size, h.block⟩

/-- pastOnes, split. -/
theorem past_any (B F N n start : Nat) (ws ns : List Nat) (w : World) (hs : St w B F N n ws ns) (hT : Tab w) (hst : start ≤ n) (hn : n ≤ 1000000) (h1 : Pl.has ws (n + 1) = false) :
    Calls Ybad.prog 12 #[.pointer (some ⟨B, 0, none⟩), .int .i64 start] w fun e w' => ∃ r : Nat, e = .returned (.int .i64 r) ∧ Pl.IsPast ws n start r ∧ Upd [] w w' := by
  have hF := hs.roomF
  have b0 := hs.blk.cell0
  have b1 := hs.blk.cell1
  have hq := q37
  have H1 : Hid ((Pl.has ws n && Pl.has ws (n + 1)) = false) := by show (_ && _) = false; rw [h1, Bool.and_false]
  clear h1
  go_enter Ybad.func12, Ybad.ntmps12
  go_wp2_with fail
  go_loopw [5] (fun v wr => ∃ k : Nat, v = .int .i64 k ∧ start / 64 ≤ k ∧ k * 64 ≤ n ∧ Pl.PastTo ws start k ∧ Upd [] w wr) (fun v _ => n - (intOf v).toNat)
  case atStart => exact ⟨start / 64, by go_num, Nat.le_refl _, by omega, Pl.past_start ws start, Upd.refl _ _⟩
  case round =>
    obtain ⟨k, rfl, hk1, hk2, hp, hu⟩ := hrel
    have c0 := (hu.blk hs.blk (by simp)).cell0
    have c1 := (hu.blk hs.blk (by simp)).cell1
    have cw := (hu.row hs.rowF (by simp)).cell (j := k) (by omega)
    have hkl : k < ws.length := by omega
    clear b0 b1
    have hsg : IntKind.u64.signed = false := rfl
    have hmx : IntKind.u64.max = 18446744073709551615 := rfl
    have hxw := Pl.words_getD hs.wF k
    obtain ⟨x, hx⟩ : ∃ x, ws.getD k 0 = x := ⟨_, rfl⟩
    rw [hx] at cw hxw
    have HX : Hid (ws.getD k 0 = x) := hx; clear hx
    -- what both ways of the round come to, once the word O of the others is known
    have on : ∀ nq, Pl.othersW ws k start n = 0 → ∃ k' : Nat, Value.int .i64 ((k : Int) + 1) = .int .i64 k' ∧ start / 64 ≤ k' ∧ k' * 64 ≤ n ∧ Pl.PastTo ws start k' ∧ Upd [] w (wr.drewN nq) := fun nq hz => by
      have := Pl.past_on hs.wF hk1 hk2 H1.out hst hp hz
      exact ⟨k + 1, by go_num, by omega, this.2, this.1, upd_drewN hu nq⟩
    have ON := on; clear on
    have FND : Hid (Pl.othersW ws k start n ≠ 0 → Pl.IsPast ws n start (k * 64 + Lib.ctz 64 (Pl.othersW ws k start n))) := fun hne => Pl.past_found hs.wF hk1 hk2 hp hne
    have LT : Hid (Pl.othersW ws k start n < 18446744073709551616) := Pl.othersW_lt _ _ _ _
    have TB : Hid (∀ nq, Tab (wr.drewN nq)) := fun nq => hT.below ((upd_drewN hu nq).below (by simp))
    have ON' : Hid (∀ nq, Pl.othersW ws k start n = 0 → ∃ k' : Nat, Value.int .i64 ((k : Int) + 1) = .int .i64 k' ∧ start / 64 ≤ k' ∧ k' * 64 ≤ n ∧ Pl.PastTo ws start k' ∧ Upd [] w (wr.drewN nq)) := ON
    clear ON
    have ML : Hid (Pl.othersW ws k start n = 0 → k < n) := fun hz => by
      have := Pl.past_on hs.wF hk1 hk2 H1.out hst hp hz
      omega
    have UD : Hid (∀ nq, Upd [] w (wr.drewN nq)) := fun nq => upd_drewN hu nq
    by_cases hnx : k + 1 < ws.length
    · have cn := (hu.row hs.rowF (by simp)).cell (j := k + 1) hnx
      obtain ⟨nx, hnxe⟩ : ∃ nx, ws.getD (k + 1) 0 = nx := ⟨_, rfl⟩
      rw [hnxe] at cn
      have HN : Hid (ws.getD (k + 1) 0 = nx) := hnxe; clear hnxe
      have hoth := others_word x nx (Pl.span k start (n + 1)) hxw (Pl.span_lt _ _ _)
      obtain ⟨O, hO⟩ : ∃ O, (18446744073709551615 ^^^ Pl.onesW x nx) &&& Pl.span k start (n + 1) = O := ⟨_, rfl⟩
      rw [hO] at hoth
      have HO : Hid (Pl.othersW ws k start n = O) := by
        show Pl.othersW ws k start n = O
        rw [← hO]; unfold Pl.othersW; rw [HX.out, HN.out]
      clear hO
      go_wp2_with fail
      go_quiet (fail)
      go_wp2_with fail
      refine (span_any _ k start (n + 1) _ (by omega) (by omega) (by omega) (by omega)).mono ?_
      rintro e w' ⟨rfl, rfl⟩
      by_cases hOz : O = 0
      · subst hOz
        go_wp2_with fail
        go_roundw
        case rel => exact ON'.out _ HO.out
        case measure => have := ML.out HO.out; simp [intOf]; omega
      · have hOz' : ((O : Int) != 0) = true := by rw [bne_iff_ne]; omega
        go_wp2_with fail
        have hne : Pl.othersW ws k start n ≠ 0 := by rw [HO.out]; exact hOz
        have hf := FND.out hne
        have hlt := LT.out
        rw [HO.out] at hf hlt
        have HF : Hid (Pl.IsPast ws n start (k * 64 + Lib.ctz 64 O)) := hf
        have hct := Pl.ctz_lt hOz hlt
        clear hf
        refine (tz_any O _ hlt hOz (TB.out _)).mono ?_
        rintro e w' ⟨rfl, rfl⟩
        generalize Lib.ctz 64 O = c at *
        go_wp2_with fail
        go_ret
        exact ⟨k * 64 + c, ret_int (by omega), HF.out, UD.out _⟩
    · have cn : ws.getD (k + 1) 0 = 0 := by
        rw [List.getD_eq_getElem?_getD, List.getElem?_eq_none (by omega)]; rfl
      have HN : Hid (ws.getD (k + 1) 0 = 0) := cn; clear cn
      have hoth := others_word0 x (Pl.span k start (n + 1)) hxw (Pl.span_lt _ _ _)
      obtain ⟨O, hO⟩ : ∃ O, (18446744073709551615 ^^^ Pl.onesW x 0) &&& Pl.span k start (n + 1) = O := ⟨_, rfl⟩
      rw [hO] at hoth
      have HO : Hid (Pl.othersW ws k start n = O) := by
        show Pl.othersW ws k start n = O
        rw [← hO]; unfold Pl.othersW; rw [HX.out, HN.out]
      clear hO
      go_wp2_with fail
      go_quiet (fail)
      go_wp2_with fail
      refine (span_any _ k start (n + 1) _ (by omega) (by omega) (by omega) (by omega)).mono ?_
      rintro e w' ⟨rfl, rfl⟩
      by_cases hOz : O = 0
      · subst hOz
        go_wp2_with fail
        go_roundw
        case rel => exact ON'.out _ HO.out
        case measure => have := ML.out HO.out; simp [intOf]; omega
      · have hOz' : ((O : Int) != 0) = true := by rw [bne_iff_ne]; omega
        go_wp2_with fail
        have hne : Pl.othersW ws k start n ≠ 0 := by rw [HO.out]; exact hOz
        have hf := FND.out hne
        have hlt := LT.out
        rw [HO.out] at hf hlt
        have HF : Hid (Pl.IsPast ws n start (k * 64 + Lib.ctz 64 O)) := hf
        have hct := Pl.ctz_lt hOz hlt
        clear hf
        refine (tz_any O _ hlt hOz (TB.out _)).mono ?_
        rintro e w' ⟨rfl, rfl⟩
        generalize Lib.ctz 64 O = c at *
        go_wp2_with fail
        go_ret
        exact ⟨k * 64 + c, ret_int (by omega), HF.out, UD.out _⟩
end Go.Proofs.YbulkavloDoor

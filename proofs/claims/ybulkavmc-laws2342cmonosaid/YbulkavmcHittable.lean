/-
  hittable: the walk.
-/
import Derived.Test.YbulkavmcRound
import Derived.Test.YbulkavmcScan
namespace Go.Proofs.Ybulkavmc.Ns
open Go.RowKit Go.Shelf
attribute [local go_sem] Oper.semAt_some

/-- The sets ms lie, as strings, in block g. -/
def SetsAt (w : World) (g : Nat) (ms : List Nat) : Prop := ∀ j, j < ms.length → w.cell? ⟨g, j, none⟩ = some (.string (str (ms.getD j 0)))

theorem SetsAt.below {w w' : World} {g : Nat} {ms : List Nat} (h : SetsAt w g ms) (hb : Below w.heap.size w w') : SetsAt w' g ms := fun j hj => cell_later hb (h j hj)

theorem mem_getD {ms : List Nat} (hms : ∀ s ∈ ms, s < 64) (j : Nat) : ms.getD j 0 < 64 := by
  rw [List.getD_eq_getElem?_getD]
  by_cases hj : j < ms.length
  · rw [List.getElem?_eq_getElem hj]; exact hms _ (List.getElem_mem hj)
  · rw [List.getElem?_eq_none (by omega)]; decide

theorem quiet_same' {P : Program} {f : FuncId} {args : Array Value} {W : World} {q x : Nat} {v : Value} (h : Calls P f args (W.drewN (q + x)) fun e w' => e = .returned v ∧ w' = W.drewN (q + x)) :
    Calls P f args (W.drewN (q + x)) fun e w' => e = .returned v ∧ ∃ n, w' = W.drewN (q + n) := h.mono fun _ _ ⟨he, hm⟩ => ⟨he, x, hm⟩
theorem quiet_draw' {P : Program} {f : FuncId} {args : Array Value} {W : World} {q x : Nat} {v : Value} (h : Calls P f args (W.drewN (q + x)) fun e w' => e = .returned v ∧ ∃ m, w' = (W.drewN (q + x)).drewN m) :
    Calls P f args (W.drewN (q + x)) fun e w' => e = .returned v ∧ ∃ n, w' = W.drewN (q + n) := h.mono fun _ _ ⟨he, m, hm⟩ => ⟨he, x + m, by rw [hm, World.drewN_drewN, Nat.add_assoc]⟩

theorem leave_ret (n : Nat) (R : Ending → World → Prop) (tmps : Array Value) (B : Nat) (b : Bool) (w : World) (ht : tmps[8]? = some (.pointer (some ⟨B, 0, none⟩))) (hc : w.cell? ⟨B, 0, none⟩ = some (.bool b)) (hR : R (.returned (.bool b)) w) :
    bodyPostM Fence.wide n Yba.prog Yba.f15 R .ret { tmps := tmps, defers := [] } w := by
  show LeavesIn Fence.wide n Yba.prog Yba.f15 tmps R [] .returning w
  refine ⟨.bool b, ?_, hR⟩
  simp [results, Yba.results15, go_sem, hc, ht]

theorem leave_mark (n : Nat) (R : Ending → World → Prop) (tmps : Array Value) (B D : Nat) (b : Bool) (w : World) (ht : tmps[8]? = some (.pointer (some ⟨B, 0, none⟩))) (hc : w.cell? ⟨B, 0, none⟩ = some (.bool b))
    (hK : w.heap[D]? = some (.deferred (some []))) (hR : R (.returned (.bool b)) (w.putObj D (.deferred none))) :
    bodyPostM Fence.wide n Yba.prog Yba.f15 R .ret { tmps := tmps, defers := [{ target := .collected D, args := #[] }] } w := by
  have hc5 := cell_kept hc (grownBy_putObj' _ D (.deferred none)) (fun r e => by cases e; exact ⟨_, hK, rfl⟩)
  refine ⟨by simp, .inl ⟨_, _, rfl, run_takeDeferred hK, .bool b, ?_, hR⟩⟩
  simp [results, Yba.results15, go_sem, hc5, ht]
theorem keeps_below {W W' : World} (h : Below W.heap.size W W') : KeepsOthers W W' := ⟨h.size, fun k _ hk _ => (h.block k (Array.getElem?_eq_some_iff.1 hk).1).trans hk⟩

theorem any_false {o : Nat} {p : Nat → Bool} (h : ∀ x ∈ bitsS o, p x.1.val = false) : ((List.range 6).any fun i => o.testBit i && p i) = false := by
  rw [Bool.eq_false_iff]
  intro hc
  rw [List.any_eq_true] at hc
  obtain ⟨i, hi, hb⟩ := hc
  rw [List.mem_range] at hi
  rw [Bool.and_eq_true] at hb
  obtain ⟨x, hx, e⟩ := mem_bitsS (m := o) ⟨i, hi⟩ hb.1
  have := h x hx
  rw [e] at this
  rw [this] at hb
  cases hb.2

theorem any_true {o : Nat} {p : Nat → Bool} (x : NodeOf o) (h : p x.1.val = true) : ((List.range 6).any fun i => o.testBit i && p i) = true := by
  rw [List.any_eq_true]
  exact ⟨x.1.val, List.mem_range.2 x.1.isLt, by rw [h, x.2]; rfl⟩

theorem box_new (w : World) (v : Value) (t : TypeId) : (w.alloc (.cells #[v] t)).cell? ⟨w.heap.size, 0, none⟩ = some v ∧ (w.alloc (.cells #[v] t)).frozen? ⟨w.heap.size, 0, none⟩ = false :=
  ⟨by rw [cell_of_row _ w.heap.size 0 _ t (0, 0) (heap_alloc_new w _)]; rfl, frozen_of_row _ w.heap.size 0 _ t (heap_alloc_new w _)⟩
theorem box_keep {w : World} {a : Addr} {v : Value} (o : Obj) (h : w.cell? a = some v) : (w.alloc o).cell? a = some v := cell_later ((Below.refl _ w).alloc (Nat.le_refl _) _) h

set_option linter.unusedSimpArgs false in
set_option maxRecDepth 100000 in
set_option maxHeartbeats 2000000 in
theorem hit_any (ms : List Nat) (hms : ∀ s ∈ ms, s < 64) (hl : ms.length ≤ 1024) (e : Nat) (he : e < 64) : ∀ (f : Nat) (k : Int) (c : Nat) (g cap : Nat) (w : World), c < 64 → 64 - c ≤ f → -100000 ≤ k - f → k ≤ 100000 → SetsAt w g ms →
    Calls Yba.prog 15 #[.slice (some ⟨g, 0, none⟩) ms.length cap, .int .i64 k, .string (str e), .string (str c)] w fun r w' => r = .returned (.bool (Hit.hit ms e f k c)) ∧ Below w.heap.size w w'
  | 0, k, c, g, cap, w, hc, hf, _, _, _ => by omega
  | f + 1, k, c, g, cap, w, hc, hf, hk1, hk2, hS => by
    have IH : Hid (∀ (k : Int) (c : Nat) (g cap : Nat) (w : World), c < 64 → 64 - c ≤ f → -100000 ≤ k - f → k ≤ 100000 → SetsAt w g ms →
      Calls Yba.prog 15 #[.slice (some ⟨g, 0, none⟩) ms.length cap, .int .i64 k, .string (str e), .string (str c)] w fun r w' => r = .returned (.bool (Hit.hit ms e f k c)) ∧ Below w.heap.size w w') := hit_any ms hms hl e he f
    have HM : Hid (∀ j, ms.getD j 0 < 64) := mem_getD hms
    refine (callsIn_wide (n := 8)).1 ?_
    refine callsIn_of_wp_marks Yba.func15 rfl trivial ?_ rfl
    simp only [Yba.ntmps15, List.size_toArray, List.length_cons, List.length_nil, Nat.reduceAdd, Nat.reduceSub, Array.replicate_succ, Array.replicate_zero, List.push_toArray, List.append_toArray, List.nil_append, List.cons_append]
    refine wpIn_wide.2 ?_
    go_wp2_with fail
    have c0 := box_new w (.slice (some ⟨g, 0, none⟩) ms.length cap) 27
    have c1 := box_new (w.alloc (.cells #[.slice (some ⟨g, 0, none⟩) ms.length cap] 27)) (.int .i64 k) 3
    have c2 := box_new ((w.alloc (.cells #[.slice (some ⟨g, 0, none⟩) ms.length cap] 27)).alloc (.cells #[.int .i64 k] 3)) (.string (str e)) 30
    have c3 := box_new (((w.alloc (.cells #[.slice (some ⟨g, 0, none⟩) ms.length cap] 27)).alloc (.cells #[.int .i64 k] 3)).alloc (.cells #[.string (str e)] 30)) (.string (str c)) 30
    have c4 := box_new ((((w.alloc (.cells #[.slice (some ⟨g, 0, none⟩) ms.length cap] 27)).alloc (.cells #[.int .i64 k] 3)).alloc (.cells #[.string (str e)] 30)).alloc (.cells #[.string (str c)] 30)) (.bool false) 4
    simp only [World.size_alloc] at c1 c2 c3 c4
    have d0 := box_keep (.cells #[.bool false] 4) (box_keep (.cells #[.string (str c)] 30) (box_keep (.cells #[.string (str e)] 30) (box_keep (.cells #[.int .i64 k] 3) c0.1)))
    have d1 := box_keep (.cells #[.bool false] 4) (box_keep (.cells #[.string (str c)] 30) (box_keep (.cells #[.string (str e)] 30) c1.1))
    have d2 := box_keep (.cells #[.bool false] 4) (box_keep (.cells #[.string (str c)] 30) c2.1)
    have d3 := box_keep (.cells #[.bool false] 4) c3.1
    obtain ⟨d4, f4⟩ := c4
    clear c0 c1 c2 c3
    have hb1 : Below w.heap.size w (((((w.alloc (.cells #[.slice (some ⟨g, 0, none⟩) ms.length cap] 27)).alloc (.cells #[.int .i64 k] 3)).alloc (.cells #[.string (str e)] 30)).alloc (.cells #[.string (str c)] 30)).alloc (.cells #[.bool false] 4)) :=
      (((((Below.refl _ w).alloc (Nat.le_refl _) _).alloc (by simp) _).alloc (by simp; omega) _).alloc (by simp; omega) _).alloc (by simp; omega) _
    have hsz1 : (((((w.alloc (.cells #[.slice (some ⟨g, 0, none⟩) ms.length cap] 27)).alloc (.cells #[.int .i64 k] 3)).alloc (.cells #[.string (str e)] 30)).alloc (.cells #[.string (str c)] 30)).alloc (.cells #[.bool false] 4)).heap.size = w.heap.size + 5 := by simp
    generalize ((((w.alloc (.cells #[.slice (some ⟨g, 0, none⟩) ms.length cap] 27)).alloc (.cells #[.int .i64 k] 3)).alloc (.cells #[.string (str e)] 30)).alloc (.cells #[.string (str c)] 30)).alloc (.cells #[.bool false] 4) = W1 at *
    have hS1 := hS.below hb1
    have HS : Hid (SetsAt W1 g ms) := hS1; clear hS1
    go_loopw [9, 10, 11, 18] (fun v9 v10 v11 v18 wr => ∃ (j : Nat) (st : Hit.Scan), j ≤ ms.length ∧ v18 = .int .i64 j ∧ Hit.scan e c (ms.take j) = some st ∧ v9 = .string (str st.opn) ∧ v10 = .int .i64 (st.cho : Nat) ∧ v11 = .int .i64 (st.unm : Nat) ∧ ∃ nq, wr = W1.drewN nq)
      (fun _ _ _ i _ => ms.length - (intOf i).toNat)
    case atStart => exact ⟨0, ⟨0, 0, 0⟩, Nat.zero_le _, rfl, rfl, rfl, rfl, rfl, 0, rfl⟩
    case round =>
      obtain ⟨j, st, hj, rfl, hsc, rfl, rfl, rfl, nq, rfl⟩ := hrel
      obtain ⟨hu1, hc6⟩ := Hit.scan_le e c _ st hsc
      rw [List.length_take] at hu1
      have HSC : Hid (Hit.scan e c (ms.take j) = some st) := hsc; clear hsc
      by_cases hjl : j < ms.length
      · have hcj := HS.out j hjl
        have hs64 := HM.out j
        have HST : Hid (Hit.scan e c (ms.take (j + 1)) = Hit.step e c (some st) (ms.getD j 0)) := by
          show _ = _
          rw [Hit.scan_take e c ms j hjl, HSC.out]
        generalize ms.getD j 0 = s at *
        by_cases hmet : s &&& c = 0
        · have hdec : decide (s &&& c = 0) = true := decide_eq_true hmet
          have hle : Hit.pc (s &&& e) ≤ Hit.pc s := Hit.sub_le ⟨s, hs64⟩ ⟨e, he⟩
          have hps := Hit.pc_le6 s
          obtain ⟨d, hd⟩ : ∃ d, Hit.pc s - Hit.pc (s &&& e) = d := ⟨_, rfl⟩
          have hdi : ((Hit.pc s : Nat) : Int) - ((Hit.pc (s &&& e) : Nat) : Int) = (d : Int) := by omega
          have HD : Hid (Hit.pc s - Hit.pc (s &&& e) = d) := hd
          have hd6 : d ≤ 6 := by omega
          clear hd hle
          have HDEC : Hid (decide (s &&& c = 0) = true) := hdec
          have HMET : Hid (s &&& c = 0) := hmet
          clear hdec hmet
          by_cases hd0 : d = 0
          · subst hd0
            have HF : Hid (Hit.hit ms e (f + 1) k c = false) := by
              refine Hit.hit_dead ?_
              rw [← List.take_append_drop (j + 1) ms]
              refine Hit.scan_none e c _ _ ?_
              rw [HST.out]
              exact Hit.step_dead HMET.out HD.out
            go_wp2_with fail
            refine (disj_m s c hs64 hc _).mono ?_
            rintro r w2 ⟨rfl, nq2, rfl⟩
            rw [HDEC.out]
            go_wp2_with fail
            go_quiet ((first | (go_at_call 19; exact quiet_same' (len_m s hs64 _)) | (go_at_call 20; exact quiet_draw' (common_m s e hs64 he _))))
            go_wp2_with fail
            refine leave_ret 8 _ _ (w.heap.size + 1 + 1 + 1 + 1) false _ rfl (World.cell?_setCell_same' _ _ _ (by simp [d4])) ⟨by rw [HF.out], ?_⟩
            exact (below_drewN hb1 _).setCell (p := ⟨w.heap.size + 1 + 1 + 1 + 1, 0, none⟩) (by simp; omega) _
          · have hd0' : ((d : Int) == 0) = false := by simp; omega
            by_cases hlt : st.unm = 0 ∨ d < st.cho
            · have HN : Hid (Hit.scan e c (ms.take (j + 1)) = some ⟨s, d, st.unm + 1⟩) := by
                have h := HST.out.trans (Hit.step_new HMET.out (by rw [HD.out]; exact hd0) (by rw [HD.out]; exact hlt))
                rw [HD.out] at h
                exact h
              go_wp2_with fail
              refine (disj_m s c hs64 hc _).mono ?_
              rintro r w2 ⟨rfl, nq2, rfl⟩
              rw [HDEC.out]
              go_wp2_with fail
              go_quiet ((first | (go_at_call 19; exact quiet_same' (len_m s hs64 _)) | (go_at_call 20; exact quiet_draw' (common_m s e hs64 he _))))
              by_cases hu0 : st.unm = 0
              · have hu0' : (((st.unm : Nat) : Int) == 0) = true := by simp; omega
                go_wp2_with fail
                go_roundw
                case rel => exact ⟨j + 1, _, by omega, by go_num, HN.out, rfl, rfl, by go_num, _, rfl⟩
                case measure => simp [intOf]; omega
              · have hu0' : (((st.unm : Nat) : Int) == 0) = false := by simp; omega
                have hlt' : d < st.cho := hlt.resolve_left hu0
                go_wp2_with fail
                go_roundw
                case rel => exact ⟨j + 1, _, by omega, by go_num, HN.out, rfl, rfl, by go_num, _, rfl⟩
                case measure => simp [intOf]; omega
            · have HN : Hid (Hit.scan e c (ms.take (j + 1)) = some ⟨st.opn, st.cho, st.unm + 1⟩) :=
                HST.out.trans (Hit.step_old HMET.out (by rw [HD.out]; exact hd0) (by rw [HD.out]; exact hlt))
              have hu0' : (((st.unm : Nat) : Int) == 0) = false := by simp; omega
              have hlt' : ¬ d < st.cho := fun h => hlt (.inr h)
              clear hlt
              go_wp2_with fail
              refine (disj_m s c hs64 hc _).mono ?_
              rintro r w2 ⟨rfl, nq2, rfl⟩
              rw [HDEC.out]
              go_wp2_with fail
              go_quiet ((first | (go_at_call 19; exact quiet_same' (len_m s hs64 _)) | (go_at_call 20; exact quiet_draw' (common_m s e hs64 he _))))
              go_wp2_with fail
              go_roundw
              case rel => exact ⟨j + 1, _, by omega, by go_num, HN.out, rfl, rfl, by go_num, _, rfl⟩
              case measure => simp [intOf]; omega
        · have hdec : decide (s &&& c = 0) = false := decide_eq_false hmet
          have HN : Hid (Hit.scan e c (ms.take (j + 1)) = some st) := HST.out.trans (Hit.step_met hmet)
          go_wp2_with fail
          refine (disj_m s c hs64 hc _).mono ?_
          rintro r w2 ⟨rfl, nq2, rfl⟩
          go_wp2_with fail
          go_roundw
          case rel => exact ⟨j + 1, st, by omega, by go_num, HN.out, rfl, rfl, rfl, _, rfl⟩
          case measure => simp [intOf]; omega
      · have HALL : Hid (Hit.scan e c ms = some st) := by
          have h := HSC.out
          rw [List.take_of_length_le (by omega)] at h
          exact h
        by_cases huk : (st.unm : Int) ≤ k
        · have HF : Hid (Hit.hit ms e (f + 1) k c = true) := Hit.hit_few HALL.out huk
          go_wp2_with fail
          refine leave_ret 8 _ _ (w.heap.size + 1 + 1 + 1 + 1) true _ rfl (World.cell?_setCell_same' _ _ _ (by simp [d4])) ⟨by rw [HF.out], ?_⟩
          exact (below_drewN hb1 _).setCell (p := ⟨w.heap.size + 1 + 1 + 1 + 1, 0, none⟩) (by simp; omega) _
        · by_cases hk0 : k = 0
          · have HF : Hid (Hit.hit ms e (f + 1) k c = false) := Hit.hit_zero HALL.out huk hk0
            have hk0' : (k == 0) = true := by simp [hk0]
            have HK0 : Hid (k = 0) := hk0; clear hk0
            go_wp2_with fail
            refine leave_ret 8 _ _ (w.heap.size + 1 + 1 + 1 + 1) false _ rfl (World.cell?_setCell_same' _ _ _ (by simp [d4])) ⟨by rw [HF.out], ?_⟩
            exact (below_drewN hb1 _).setCell (p := ⟨w.heap.size + 1 + 1 + 1 + 1, 0, none⟩) (by simp; omega) _
          · have hk0' : (k == 0) = false := by simp [hk0]
            have HMORE : Hid (Hit.hit ms e (f + 1) k c = (List.range 6).any fun i => st.opn.testBit i && (!e.testBit i && Hit.hit ms e f (k - 1) (c ||| 2 ^ i))) := Hit.hit_more HALL.out huk hk0
            go_wp2_with fail
            refine callsIn_wide.1 ((nodes_in 7 (str st.opn) _).mono ?_)
            rintro r w2 ⟨rfl, rfl⟩
            go_wp2_with fail
            have g0 := box_keep (.cells #[.string (str st.opn)] 30) (w := W1.drewN nq) d0
            have g1 := box_keep (.cells #[.string (str st.opn)] 30) (w := W1.drewN nq) d1
            have g2 := box_keep (.cells #[.string (str st.opn)] 30) (w := W1.drewN nq) d2
            have g3 := box_keep (.cells #[.string (str st.opn)] 30) (w := W1.drewN nq) d3
            have g4 := box_keep (.cells #[.string (str st.opn)] 30) (w := W1.drewN nq) d4
            have q4 : ((W1.drewN nq).alloc (.cells #[.string (str st.opn)] 30)).frozen? ⟨w.heap.size + 1 + 1 + 1 + 1, 0, none⟩ = false :=
              (((Below.refl _ (W1.drewN nq)).alloc (Nat.le_refl _) _).frozen (p := ⟨w.heap.size + 1 + 1 + 1 + 1, 0, none⟩) (World.block_lt_of_cell? (W1.drewN nq) _ d4)).trans f4
            have g5 := (box_new (W1.drewN nq) (.string (str st.opn)) 30).1
            have hzl : ((W1.drewN nq).alloc (.cells #[.string (str st.opn)] 30)).heap.size = w.heap.size + 6 := by
              rw [World.size_alloc]; show W1.heap.size + 1 = _; omega
            have hbl : Below w.heap.size w ((W1.drewN nq).alloc (.cells #[.string (str st.opn)] 30)) := (below_drewN hb1 nq).alloc (by show _ ≤ W1.heap.size; omega) _
            rw [show (W1.drewN nq).heap.size = w.heap.size + 5 from hsz1] at g5
            have HS' : Hid (∀ W, Below w.heap.size w W → SetsAt W g ms) := fun W h => hS.below h
            have hop : st.opn < 64 ∧ st.opn &&& c = 0 := by
              have h := (Hit.scan_spec e c ms hms).1 st HALL.out
              exact ⟨h.1, h.2.1⟩
            have HOC : Hid (∀ i, st.opn.testBit i = true → c.testBit i = false) := fun i hi => by
              have := congrArg (fun x => x.testBit i) hop.2
              simpa only [Nat.testBit_and, Nat.zero_testBit, hi, Bool.true_and] using this
            have hop1 := hop.1
            clear hop d0 d1 d2 d3 d4 f4 hb1 HS HM hS hu1 hc6 hjl HSC
            generalize (W1.drewN nq).alloc (.cells #[.string (str st.opn)] 30) = Wl at *
            clear hsz1
            refine (wpIn_wide (n := 8)).1 ?_
            refine wpIn_rangeFunc_ownF rfl (by decide) (gf := 24) (lb := #[.pointer (some ⟨w.heap.size + 5, 0, none⟩)]) rfl trivial (enters_of Yba.func24 (by kernel_rfl) rfl)
              (nodes_stops 7 (by decide) (w.heap.size + 5) (w.heap.size + 6) (str st.opn) st.opn hop1 rfl Wl (by omega) (by omega) g5) belowK_t (belowK_b (w := Wl) (by omega)) (Below.refl _ _) (fun _ => rfl)
              (fun pre W => (∀ i ∈ pre, e.testBit i.1.val = true ∨ Hit.hit ms e f (k - 1) (c ||| 2 ^ i.1.val) = false) ∧ Below (w.heap.size + 6) Wl W)
              (fun cd pre W => (cd = .ret ∧ (∃ i ∈ pre, e.testBit i.1.val = false ∧ Hit.hit ms e f (k - 1) (c ||| 2 ^ i.1.val) = true) ∧ W.cell? ⟨w.heap.size + 1 + 1 + 1 + 1, 0, none⟩ = some (.bool true)) ∧ Below w.heap.size w W)
              (OwnFrom.and (ownFrom_pure _ (fun pre : List (NodeOf st.opn) => ∀ i ∈ pre, e.testBit i.1.val = true ∨ Hit.hit ms e f (k - 1) (c ||| 2 ^ i.1.val) = false)) (ownFrom_below (by omega) (by omega)))
              (fun cd => OwnFrom.and (Own.from (fun s A B row hs hg hr => ⟨hs.1, hs.2.1, cell_kept hs.2.2 hg hr⟩) _) (ownFrom_below (Nat.le_refl _) (by omega)))
              ⟨by simp, Below.refl _ _⟩
              (fun x => { tmps := #[.slice (some ⟨g, 0, none⟩) ms.length cap, .int .i64 k, .string (str e), .string (str c), .pointer (some ⟨w.heap.size, 0, none⟩), .pointer (some ⟨w.heap.size + 1, 0, none⟩), .pointer (some ⟨w.heap.size + 1 + 1, 0, none⟩), .pointer (some ⟨w.heap.size + 1 + 1 + 1, 0, none⟩), .pointer (some ⟨w.heap.size + 1 + 1 + 1 + 1, 0, none⟩), .string (str st.opn), .int .i64 (st.cho : Nat), .int .i64 (st.unm : Nat), undef, u13, u14, .int .i64 ((Sp.nd x.1.val : Nat) : Int), .slice (some ⟨g, 0, none⟩) ms.length cap, .int .i64 (ms.length : Nat), .int .i64 (j : Nat), .bool false, u20, u21, u22, u23, u24, u25, u26, u27, u28, u29, u30, u31, u32, u33, u34, u35, u36, u37, u38, u39, u40, u41, u42, u43, u44, u45, .bool false, .int .i64 (st.unm : Nat), .int .i64 k, .bool false, .bool false, .int .i64 k, .bool false, .string (str st.opn), .func (.func 24) #[] #[.pointer (some ⟨w.heap.size + 5, 0, none⟩)], .int .i64 ((Sp.nd x.1.val : Nat) : Int), undef, undef, undef, undef, undef, undef, undef, undef, undef, undef, undef, undef, undef, undef], defers := [] }) ?assign ?body ?done ?stop
            case assign =>
              intro l x W K hK
              gi_wp2
              exact hK
            case body =>
              rintro l pre x W ⟨hp, hB⟩ _
              have HP : Hid (∀ i ∈ pre, e.testBit i.1.val = true ∨ Hit.hit ms e f (k - 1) (c ||| 2 ^ i.1.val) = false) := hp; clear hp
              obtain ⟨i, hi⟩ := x
              have hBw : Below w.heap.size w W := hbl.trans (hB.mono (by omega))
              have k0 : W.cell? ⟨w.heap.size, 0, none⟩ = some (.slice (some ⟨g, 0, none⟩) ms.length cap) := (hB.cell (p := ⟨w.heap.size, 0, none⟩) (by simp)).trans g0
              have k1 : W.cell? ⟨w.heap.size + 1, 0, none⟩ = some (.int .i64 k) := (hB.cell (p := ⟨w.heap.size + 1, 0, none⟩) (by simp)).trans g1
              have k2 : W.cell? ⟨w.heap.size + 1 + 1, 0, none⟩ = some (.string (str e)) := (hB.cell (p := ⟨w.heap.size + 1 + 1, 0, none⟩) (by simp)).trans g2
              have k3 : W.cell? ⟨w.heap.size + 1 + 1 + 1, 0, none⟩ = some (.string (str c)) := (hB.cell (p := ⟨w.heap.size + 1 + 1 + 1, 0, none⟩) (by simp)).trans g3
              have k4 : W.cell? ⟨w.heap.size + 1 + 1 + 1 + 1, 0, none⟩ = some (.bool false) := (hB.cell (p := ⟨w.heap.size + 1 + 1 + 1 + 1, 0, none⟩) (by simp)).trans g4
              have k5 : W.frozen? ⟨w.heap.size + 1 + 1 + 1 + 1, 0, none⟩ = false := (hB.frozen (p := ⟨w.heap.size + 1 + 1 + 1 + 1, 0, none⟩) (by simp)).trans q4
              have KK : Hid (∀ w' : World, Below W.heap.size W w' → w'.cell? ⟨w.heap.size, 0, none⟩ = some (.slice (some ⟨g, 0, none⟩) ms.length cap) ∧ w'.cell? ⟨w.heap.size + 1, 0, none⟩ = some (.int .i64 k) ∧
                  w'.cell? ⟨w.heap.size + 1 + 1, 0, none⟩ = some (.string (str e)) ∧ w'.cell? ⟨w.heap.size + 1 + 1 + 1, 0, none⟩ = some (.string (str c))) :=
                fun w' h => ⟨cell_later h k0, cell_later h k1, cell_later h k2, cell_later h k3⟩
              clear g0 g1 g2 g3 g4 g5 q4
              gi_wp2
              refine region_round l 6 (S := fun w' => Below W.heap.size W w') (by kernel_rfl) (by kernel_rfl) (by rintro ⟨_, _, h⟩; exact h) (Below.refl _ W).drew (fun hH => ?_)
              refine take_at 0 56 (.string (str e)) rfl rfl (by kernel_rfl) (by kernel_rfl) (by kernel_rfl) (fun _ _ _ h => h) (by rfl) ?_ hH ?_
              · intro w' hSw
                obtain ⟨m0, m1, m2, m3⟩ := KK.out w' hSw
                go_simp
              simp only [List.setIfInBounds_toArray, List.set_cons_zero, List.set_cons_succ]
              refine take_at 1 57 (.int .i64 ((Sp.nd i.val : Nat) : Int)) rfl rfl (by kernel_rfl) (by kernel_rfl) (by kernel_rfl) (fun _ _ _ h => h) (by rfl) ?_ hH ?_
              · intro w' hSw
                go_simp
              simp only [List.setIfInBounds_toArray, List.set_cons_zero, List.set_cons_succ]
              refine wpAnyH_ready (rs := [2]) (by kernel_rfl) (by simp) ?_
              refine AllReadyH.cons rfl (fun K hK => ?_) AllReadyH.nil
              go_simp
              refine (has_m e i he _).mono ?_
              rintro r w2 ⟨rfl, hb2⟩
              have hH2 : Below W.heap.size W w2 := (Below.refl _ W).drew.trans (hb2.mono (Nat.le_refl _))
              refine hK.out _ _ hH2 (fun hH => ?_)
              clear hK K hb2 hH2
              cases hei : e.testBit i.val with
              | true =>
                refine take_at 3 59 (.bool false) rfl rfl (by kernel_rfl) (by kernel_rfl) (by kernel_rfl) (fun _ _ _ h => h) (by rfl) ?_ hH ?_
                · intro w' hSw
                  go_simp
                simp only [List.setIfInBounds_toArray, List.set_cons_zero, List.set_cons_succ]
                refine take_at 4 60 (.bool false) rfl rfl (by kernel_rfl) (by kernel_rfl) (by kernel_rfl) (fun _ _ _ h => h) (by rfl) ?_ hH ?_
                · intro w' hSw
                  go_simp
                simp only [List.setIfInBounds_toArray, List.set_cons_zero, List.set_cons_succ]
                refine skip_at 5 61 rfl rfl (by kernel_rfl) (by kernel_rfl) (by kernel_rfl) (fun _ _ _ h => h) (by rfl) hH ?_
                simp only [List.setIfInBounds_toArray, List.set_cons_zero, List.set_cons_succ]
                refine skip_at 6 62 rfl rfl (by kernel_rfl) (by kernel_rfl) (by kernel_rfl) (fun _ _ _ h => h) (by rfl) hH ?_
                simp only [List.setIfInBounds_toArray, List.set_cons_zero, List.set_cons_succ]
                refine skip_at 7 63 rfl rfl (by kernel_rfl) (by kernel_rfl) (by kernel_rfl) (fun _ _ _ h => h) (by rfl) hH ?_
                simp only [List.setIfInBounds_toArray, List.set_cons_zero, List.set_cons_succ]
                refine skip_at 8 64 rfl rfl (by kernel_rfl) (by kernel_rfl) (by kernel_rfl) (fun _ _ _ h => h) (by rfl) hH ?_
                simp only [List.setIfInBounds_toArray, List.set_cons_zero, List.set_cons_succ]
                refine skip_at 9 65 rfl rfl (by kernel_rfl) (by kernel_rfl) (by kernel_rfl) (fun _ _ _ h => h) (by rfl) hH ?_
                simp only [List.setIfInBounds_toArray, List.set_cons_zero, List.set_cons_succ]
                refine skip_at 10 66 rfl rfl (by kernel_rfl) (by kernel_rfl) (by kernel_rfl) (fun _ _ _ h => h) (by rfl) hH ?_
                simp only [List.setIfInBounds_toArray, List.set_cons_zero, List.set_cons_succ]
                refine skip_at 11 67 rfl rfl (by kernel_rfl) (by kernel_rfl) (by kernel_rfl) (fun _ _ _ h => h) (by rfl) hH ?_
                simp only [List.setIfInBounds_toArray, List.set_cons_zero, List.set_cons_succ]
                refine skip_at 12 68 rfl rfl (by kernel_rfl) (by kernel_rfl) (by kernel_rfl) (fun _ _ _ h => h) (by rfl) hH ?_
                simp only [List.setIfInBounds_toArray, List.set_cons_zero, List.set_cons_succ]
                refine take_at 13 69 (.bool false) rfl rfl (by kernel_rfl) (by kernel_rfl) (by kernel_rfl) (fun _ _ _ h => h) (by rfl) ?_ hH ?_
                · intro w' hSw
                  go_simp
                simp only [List.setIfInBounds_toArray, List.set_cons_zero, List.set_cons_succ]
                refine wpAnyH_done (by kernel_rfl) ?_ _
                gi_wp2
                refine ⟨keeps_below hH, hH.mono (by have := hB.size; omega), fun y hy => ?_, hB.trans (hH.mono (by have := hB.size; omega))⟩
                rcases List.mem_append.1 hy with hy | hy
                · exact HP.out y hy
                · rw [List.mem_singleton] at hy
                  subst hy
                  exact .inl hei
              | false =>
                refine take_at 3 59 (.bool true) rfl rfl (by kernel_rfl) (by kernel_rfl) (by kernel_rfl) (fun _ _ _ h => h) (by rfl) ?_ hH ?_
                · intro w' hSw
                  go_simp
                simp only [List.setIfInBounds_toArray, List.set_cons_zero, List.set_cons_succ]
                refine take_at 4 60 (.bool true) rfl rfl (by kernel_rfl) (by kernel_rfl) (by kernel_rfl) (fun _ _ _ h => h) (by rfl) ?_ hH ?_
                · intro w' hSw
                  go_simp
                simp only [List.setIfInBounds_toArray, List.set_cons_zero, List.set_cons_succ]
                refine take_at 5 61 (.slice (some ⟨g, 0, none⟩) ms.length cap) rfl rfl (by kernel_rfl) (by kernel_rfl) (by kernel_rfl) (fun _ _ _ h => h) (by rfl) ?_ hH ?_
                · intro w' hSw
                  obtain ⟨m0, m1, m2, m3⟩ := KK.out w' hSw
                  go_simp
                simp only [List.setIfInBounds_toArray, List.set_cons_zero, List.set_cons_succ]
                refine take_at 6 62 (.int .i64 k) rfl rfl (by kernel_rfl) (by kernel_rfl) (by kernel_rfl) (fun _ _ _ h => h) (by rfl) ?_ hH ?_
                · intro w' hSw
                  obtain ⟨m0, m1, m2, m3⟩ := KK.out w' hSw
                  go_simp
                simp only [List.setIfInBounds_toArray, List.set_cons_zero, List.set_cons_succ]
                refine take_at 7 63 (.int .i64 (k - 1)) rfl rfl (by kernel_rfl) (by kernel_rfl) (by kernel_rfl) (fun _ _ _ h => h) (by rfl) ?_ hH ?_
                · intro w' hSw
                  go_simp
                  rw [IntKind.wrap_i64]
                  omega
                simp only [List.setIfInBounds_toArray, List.set_cons_zero, List.set_cons_succ]
                refine take_at 8 64 (.string (str e)) rfl rfl (by kernel_rfl) (by kernel_rfl) (by kernel_rfl) (fun _ _ _ h => h) (by rfl) ?_ hH ?_
                · intro w' hSw
                  obtain ⟨m0, m1, m2, m3⟩ := KK.out w' hSw
                  go_simp
                simp only [List.setIfInBounds_toArray, List.set_cons_zero, List.set_cons_succ]
                refine take_at 9 65 (.string (str c)) rfl rfl (by kernel_rfl) (by kernel_rfl) (by kernel_rfl) (fun _ _ _ h => h) (by rfl) ?_ hH ?_
                · intro w' hSw
                  obtain ⟨m0, m1, m2, m3⟩ := KK.out w' hSw
                  go_simp
                simp only [List.setIfInBounds_toArray, List.set_cons_zero, List.set_cons_succ]
                refine take_at 10 66 (.int .i64 ((Sp.nd i.val : Nat) : Int)) rfl rfl (by kernel_rfl) (by kernel_rfl) (by kernel_rfl) (fun _ _ _ h => h) (by rfl) ?_ hH ?_
                · intro w' hSw
                  go_simp
                simp only [List.setIfInBounds_toArray, List.set_cons_zero, List.set_cons_succ]
                refine wpAnyH_ready (rs := [11]) (by kernel_rfl) (by simp) ?_
                refine AllReadyH.cons rfl (fun K hK => ?_) AllReadyH.nil
                go_simp
                refine (with_m c i hc (HOC.out i.val hi) _).mono ?_
                rintro r w3 ⟨rfl, hb3⟩
                have hH3 : Below W.heap.size W w3 := hH.trans (hb3.mono hH.size)
                refine hK.out _ _ hH3 (fun hH' => ?_)
                clear hK K hb3 hH
                refine wpAnyH_ready (rs := [12]) (by kernel_rfl) (by simp) ?_
                refine AllReadyH.cons rfl (fun K hK => ?_) AllReadyH.nil
                go_simp
                have hgr : c < c ||| 2 ^ i.val := Hit.grows ⟨c, hc⟩ i (HOC.out i.val hi)
                refine (IH.out (k - 1) (c ||| 2 ^ i.val) g cap w3 (Hit.or_lt' hc (Hit.bit_lt i)) (by omega) (by omega) (by omega) (HS'.out w3 (hBw.trans (hH3.mono hBw.size)))).mono ?_
                rintro r w4 ⟨rfl, hb4⟩
                have hH4 : Below W.heap.size W w4 := hH3.trans (hb4.mono hH3.size)
                refine hK.out _ _ hH4 (fun hH => ?_)
                clear hK K hb4 hH3 hH'
                cases hhit : Hit.hit ms e f (k - 1) (c ||| 2 ^ i.val) with
                | true =>
                  refine take_at 13 69 (.bool true) rfl rfl (by kernel_rfl) (by kernel_rfl) (by kernel_rfl) (fun _ _ _ h => h) (by rfl) ?_ hH ?_
                  · intro w' hSw
                    go_simp
                  simp only [List.setIfInBounds_toArray, List.set_cons_zero, List.set_cons_succ]
                  refine wpAnyH_done (by kernel_rfl) ?_ _
                  have z4 := cell_later hH k4
                  have z5 := (hH.frozen (p := ⟨w.heap.size + 1 + 1 + 1 + 1, 0, none⟩) (World.block_lt_of_cell? W _ k4)).trans k5
                  gi_wp2
                  exact ⟨(keeps_below hH).trans (KeepsOthers.setCell _ _ _), ⟨rfl, ⟨⟨i, hi⟩, by simp, hei, hhit⟩, World.cell?_setCell_same' _ _ _ (by rw [z4]; rfl)⟩,
                    (hBw.trans (hH.mono hBw.size)).setCell (p := ⟨w.heap.size + 1 + 1 + 1 + 1, 0, none⟩) (by simp; omega) _⟩
                | false =>
                  refine take_at 13 69 (.bool false) rfl rfl (by kernel_rfl) (by kernel_rfl) (by kernel_rfl) (fun _ _ _ h => h) (by rfl) ?_ hH ?_
                  · intro w' hSw
                    go_simp
                  simp only [List.setIfInBounds_toArray, List.set_cons_zero, List.set_cons_succ]
                  refine wpAnyH_done (by kernel_rfl) ?_ _
                  gi_wp2
                  refine ⟨keeps_below hH, hH.mono (by have := hB.size; omega), fun y hy => ?_, hB.trans (hH.mono (by have := hB.size; omega))⟩
                  rcases List.mem_append.1 hy with hy | hy
                  · exact HP.out y hy
                  · rw [List.mem_singleton] at hy
                    subst hy
                    exact .inr hhit
            case done =>
              rintro D ys W hD rfl ⟨hne, hB⟩ hK
              have k4 : W.cell? ⟨w.heap.size + 1 + 1 + 1 + 1, 0, none⟩ = some (.bool false) := (hB.cell (p := ⟨w.heap.size + 1 + 1 + 1 + 1, 0, none⟩) (by simp)).trans g4
              have k5 : W.frozen? ⟨w.heap.size + 1 + 1 + 1 + 1, 0, none⟩ = false := (hB.frozen (p := ⟨w.heap.size + 1 + 1 + 1 + 1, 0, none⟩) (by simp)).trans q4
              have hBw : Below w.heap.size w W := hbl.trans (hB.mono (by omega))
              have HF : Hid (Hit.hit ms e (f + 1) k c = false) := by
                refine HMORE.out.trans (any_false (p := fun i => !e.testBit i && Hit.hit ms e f (k - 1) (c ||| 2 ^ i)) (fun x hx => ?_))
                rcases hne x hx with h | h <;> simp only [h, Bool.not_true, Bool.false_and, Bool.and_false]
              clear hne g0 g1 g2 g3 g4 g5 q4
              gi_wp2
              go_wp2_with fail
              have hK' := (KeepsOthers.setCell W ⟨w.heap.size + 1 + 1 + 1 + 1, 0, none⟩ (.bool false)).same D _ hK rfl
              refine leave_mark 8 _ _ (w.heap.size + 1 + 1 + 1 + 1) D false _ rfl (World.cell?_setCell_same' _ _ _ (by rw [k4]; rfl)) hK' ⟨by rw [HF.out], ?_⟩
              exact (hBw.setCell (p := ⟨w.heap.size + 1 + 1 + 1 + 1, 0, none⟩) (by simp; omega) _).trans (belowK_b (w := w) (Nat.le_refl _) _ D _ _ (by omega) hK' rfl rfl)
            case stop =>
              rintro D cd pre W hD hpre ⟨⟨rfl, ⟨x, hx, hex, hhx⟩, hcr⟩, hB⟩ hK
              have HF : Hid (Hit.hit ms e (f + 1) k c = true) := by
                refine HMORE.out.trans (any_true (p := fun i => !e.testBit i && Hit.hit ms e f (k - 1) (c ||| 2 ^ i)) x ?_)
                simp only [hex, hhx, Bool.not_false, Bool.and_self]
              clear g0 g1 g2 g3 g4 g5 q4 hex hhx
              gi_wp2
              refine leave_mark 8 _ _ (w.heap.size + 1 + 1 + 1 + 1) D true _ rfl hcr hK ⟨by rw [HF.out], ?_⟩
              exact hB.trans (belowK_b (w := w) (Nat.le_refl _) _ D _ _ (by omega) hK rfl rfl)

end Go.Proofs.Ybulkavmc.Ns

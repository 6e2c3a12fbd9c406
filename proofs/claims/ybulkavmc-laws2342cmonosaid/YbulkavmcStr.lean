/-
  The walks of Set's methods: Len, bytesOf, Disjoint, Common, Has, With.
-/
import Derived.Test.YbulkavmcRows
import Derived.Test.YbulkavmcStrPlain
import Derived.WalkKit
import Derived.WalkSpells
import Derived.WalkLawsBesides
import Derived.Deep.QuietTactic
import Derived.BigQuiet
import Derived.RegionTactic
import Derived.ChangeAlike
import Derived.Lib.Strings
import Derived.Laws.IdiomStrings
import Derived.Laws.Rows
namespace Go.Proofs.Ybulkavmc.Ns
open Go.RowKit

theorem ret_int {k : IntKind} {a b : Int} (h : a = b) : Ending.returned (.int k a) = .returned (.int k b) := by rw [h]
theorem ret_bool {a b : Bool} (h : a = b) : Ending.returned (.bool a) = .returned (.bool b) := by rw [h]

theorem ck_eq (s : ByteArray) (i : Nat) : (s.extract (4 * i) (4 * i + 4)).toList = Sp.ck s.data.toList i := by
  rw [Lib.toList_data, Lib.extract_data, Nat.add_sub_cancel_left]
  rfl

theorem size_eq (s : ByteArray) : s.data.toList.length = s.size := rfl

theorem below_drewN {B : Nat} {a w : World} (h : Below B a w) (n : Nat) : Below B a (w.drewN n) := ⟨h.os, h.tape, h.output, h.size, h.block⟩

theorem len_any (s : ByteArray) (w : World) (hs : s.size ≤ 1000) :
    Calls Yba.prog 19 #[.string s] w fun e w' => e = .returned (.int .i64 (s.size / 4 : Nat)) ∧ w' = w := by
  go_enter Yba.func19, Yba.ntmps19
  go_wp2
  go_ret
  exact ⟨ret_int (by omega), rfl⟩

theorem disj_any (s t : ByteArray) (n m : Nat) (w : World) (hs : s.size = 4 * n) (ht : t.size = 4 * m) (hn : n ≤ 6) (hm : m ≤ 6) :
    Calls Yba.prog 18 #[.string s, .string t] w fun e w' => e = .returned (.bool (Sp.dj s.data.toList t.data.toList 13 0 0)) ∧ ∃ nq, w' = w.drewN nq := by
  obtain ⟨R, hR⟩ : ∃ R, Sp.dj s.data.toList t.data.toList 13 0 0 = R := ⟨_, rfl⟩
  rw [hR]
  have HR : Hid (Sp.dj s.data.toList t.data.toList 13 0 0 = R) := hR; clear hR
  have HS : Hid (s.data.toList.length = 4 * n) := (size_eq s).trans hs
  have HT : Hid (t.data.toList.length = 4 * m) := (size_eq t).trans ht
  go_enter Yba.func18, Yba.ntmps18
  go_wp2
  go_loopw [5, 6] (fun vi vj wr => ∃ i j f : Nat, i ≤ n ∧ j ≤ m ∧ vi = .int .i64 (4 * i : Nat) ∧ vj = .int .i64 (4 * j : Nat) ∧ i + j + f = 13 ∧ Sp.dj s.data.toList t.data.toList f i j = R ∧ ∃ nq, wr = w.drewN nq) (fun vi vj _ => 100 - (intOf vi).toNat - (intOf vj).toNat)
  case atStart => exact ⟨0, 0, 13, Nat.zero_le _, Nat.zero_le _, rfl, rfl, rfl, HR.out, 0, rfl⟩
  case round =>
    obtain ⟨i, j, f, hi, hj, rfl, rfl, hf, hd, nq, rfl⟩ := hrel
    obtain ⟨f', rfl⟩ : ∃ f', f = f' + 1 := ⟨f - 1, by omega⟩
    have HD : Hid (Sp.dj s.data.toList t.data.toList (f' + 1) i j = R) := hd; clear hd
    by_cases hin : i < n
    · by_cases hjm : j < m
      · have key : Hid ((if (Sp.ck s.data.toList i == Sp.ck t.data.toList j) = true then false else if Op.bytesLess (Sp.ck s.data.toList i) (Sp.ck t.data.toList j) = true then Sp.dj s.data.toList t.data.toList f' (i + 1) j else Sp.dj s.data.toList t.data.toList f' i (j + 1)) = R) := by
          have h := HD.out
          unfold Sp.dj at h
          rw [HS.out, HT.out, if_pos ⟨by omega, by omega⟩] at h
          exact h
        have e1 := ck_eq s i
        have e2 := ck_eq t j
        generalize Sp.ck s.data.toList i = x at *
        generalize Sp.ck t.data.toList j = y at *
        by_cases hxy : (x == y) = true
        · have hk := key.out
          rw [if_pos hxy] at hk
          subst hk
          go_wp2_with fail
          go_quiet (fail)
          go_wp2_with fail
          go_ret
          exact ⟨rfl, _, rfl⟩
        · have hxy' : (x == y) = false := by simpa using hxy
          by_cases hlt : Op.bytesLess x y = true
          · have hk := key.out
            rw [if_neg hxy, if_pos hlt] at hk
            have HK := hk; clear hk
            clear key
            have HK' : Hid (Sp.dj s.data.toList t.data.toList f' (i + 1) j = R) := HK; clear HK
            go_wp2_with fail
            go_quiet (fail)
            go_wp2_with fail
            go_roundw
            case rel => exact ⟨i + 1, j, f', by omega, hj, by go_num, rfl, by omega, HK'.out, _, rfl⟩
            case measure => simp [intOf]; omega
          · have hlt' : Op.bytesLess x y = false := by simpa using hlt
            have hk := key.out
            rw [if_neg hxy, if_neg hlt] at hk
            clear key
            have HK' : Hid (Sp.dj s.data.toList t.data.toList f' i (j + 1) = R) := hk; clear hk
            go_wp2_with fail
            go_quiet (fail)
            go_wp2_with fail
            go_roundw
            case rel => exact ⟨i, j + 1, f', hi, by omega, rfl, by go_num, by omega, HK'.out, _, rfl⟩
            case measure => simp [intOf]; omega
      · have hk := HD.out
        unfold Sp.dj at hk
        rw [HS.out, HT.out, if_neg (by omega)] at hk
        subst hk
        go_wp2_with fail
        go_ret
        exact ⟨rfl, _, rfl⟩
    · have hk := HD.out
      unfold Sp.dj at hk
      rw [HS.out, HT.out, if_neg (by omega)] at hk
      subst hk
      go_wp2_with fail
      go_ret
      exact ⟨rfl, _, rfl⟩

/-- The four bytes of a node, as cells. -/
def nbCells (v : Nat) : Array Value := #[.int .u8 ((v : Int) / 16777216), .int .u8 ((v : Int) / 65536 % 256), .int .u8 ((v : Int) / 256 % 256), .int .u8 ((v : Int) % 256)]

theorem bytesOf_any (v : Nat) (w : World) (hv : v < 4294967296) :
    Calls Yba.prog 23 #[.int .i64 v] w fun e w' => e = .returned (.agg #[.int .u8 ((v : Int) / 16777216), .int .u8 ((v : Int) / 65536 % 256), .int .u8 ((v : Int) / 256 % 256), .int .u8 ((v : Int) % 256)]) ∧ w' = w.alloc (.cells (nbCells v) 46) := by
  go_enter Yba.func23, Yba.ntmps23
  go_wp2
  simp [bodyPost, results, Yba.results23, go_sem, nbCells]

/-- The string of a node's four bytes. -/
def nbS (v : Nat) : ByteArray := ⟨(Sp.nb v).toArray⟩

theorem nbS_list (v : Nat) : (nbS v).toList = Sp.nb v := by rw [Lib.toList_data]; rfl

/-- Set(p[:]), p a node's four bytes in block g. -/
theorem conv_run (v g : Nat) (w : World) (hv : v < 4294967296) (hg : w.heap[g]? = some (.cells (nbCells v) 46 (0, 0))) :
    (convert 26 30 (.slice (some ⟨g, 0, none⟩) 4 4)).run Yba.prog w = .ok (.string (nbS v)) w := by
  have hc : ∀ j (hj : j < (Sp.nb v).length), w.cell? ((⟨g, 0, none⟩ : Addr).add j) = some (.int .u8 (((Sp.nb v)[j].toNat : Nat) : Int)) := fun j hj => by
    rw [WideShapes.add_plain, Nat.zero_add, cell_of_row w g j _ 46 (0, 0) hg]
    have h4 : j < 4 := by simpa [Sp.nb] using hj
    match j, h4 with
    | 0, _ => simp [nbCells, Sp.nb]; omega
    | 1, _ => simp [nbCells, Sp.nb]
    | 2, _ => simp [nbCells, Sp.nb]
    | 3, _ => simp [nbCells, Sp.nb]
  exact run_convert_bytes_back w 26 30 5 ⟨g, 0, none⟩ 4 (Sp.nb v) Yba.underlying26 Yba.underlying5 Yba.underlying30 hc

theorem has_any (s : ByteArray) (n v : Nat) (w : World) (hs : s.size = 4 * n) (hn : n ≤ 6) (hv : v < 4294967296) :
    Calls Yba.prog 22 #[.string s, .int .i64 v] w fun e w' => e = .returned (.bool (Sp.hs s.data.toList (Sp.nb v) 7 0)) ∧ Below w.heap.size w w' := by
  obtain ⟨R, hR⟩ : ∃ R, Sp.hs s.data.toList (Sp.nb v) 7 0 = R := ⟨_, rfl⟩
  rw [hR]
  have HR : Hid (Sp.hs s.data.toList (Sp.nb v) 7 0 = R) := hR; clear hR
  have HS : Hid (s.data.toList.length = 4 * n) := (size_eq s).trans hs
  go_enter Yba.func22, Yba.ntmps22
  go_wp2_with fail
  refine (bytesOf_any v w hv).mono ?_
  rintro e w1 ⟨rfl, rfl⟩
  go_wp2_with fail
  have hg : ((w.alloc (.cells (nbCells v) 46)).alloc (.cells (nbCells v) 46)).heap[w.heap.size + 1]? = some (.cells (nbCells v) 46 (0, 0)) := by
    have := heap_alloc_new (w.alloc (.cells (nbCells v) 46)) (.cells (nbCells v) 46)
    rw [World.size_alloc] at this
    exact this
  have hb : Below w.heap.size w ((w.alloc (.cells (nbCells v) 46)).alloc (.cells (nbCells v) 46)) := ((Below.refl _ w).alloc (Nat.le_refl _) _).alloc (by simp) _
  change Code.wp _ _ _ _ ((w.alloc (.cells (nbCells v) 46)).alloc (.cells (nbCells v) 46))
  generalize (w.alloc (.cells (nbCells v) 46)).alloc (.cells (nbCells v) 46) = W0 at *
  have hcv : ∀ nq, (convert 26 30 (.slice (some ⟨w.heap.size + 1, 0, none⟩) 4 4)).run Yba.prog (W0.drewN nq) = .ok (.string (nbS v)) (W0.drewN nq) := fun nq => conv_run v _ _ hv hg
  have hnl := nbS_list v
  go_loopw [6] (fun vi wr => ∃ i f : Nat, i ≤ n ∧ vi = .int .i64 (4 * i : Nat) ∧ i + f = 7 ∧ Sp.hs s.data.toList (Sp.nb v) f i = R ∧ ∃ nq, wr = W0.drewN nq) (fun vi _ => 100 - (intOf vi).toNat)
  case atStart => exact ⟨0, 7, Nat.zero_le _, rfl, rfl, HR.out, 0, rfl⟩
  case round =>
    obtain ⟨i, f, hi, rfl, hf, hd, nq, rfl⟩ := hrel
    obtain ⟨f', rfl⟩ : ∃ f', f = f' + 1 := ⟨f - 1, by omega⟩
    have HD : Hid (Sp.hs s.data.toList (Sp.nb v) (f' + 1) i = R) := hd; clear hd
    by_cases hin : i < n
    · have key : Hid ((if (Sp.ck s.data.toList i == Sp.nb v) = true then true else Sp.hs s.data.toList (Sp.nb v) f' (i + 1)) = R) := by
        have h := HD.out
        unfold Sp.hs at h
        rw [HS.out, if_pos (by omega)] at h
        exact h
      have e1 := ck_eq s i
      generalize Sp.ck s.data.toList i = x at *
      by_cases hxy : (x == Sp.nb v) = true
      · have hk := key.out
        rw [if_pos hxy] at hk
        subst hk
        go_wp2_with fail
        go_quiet (fail)
        go_wp2_with fail
        go_ret
        exact ⟨rfl, below_drewN (below_drewN hb _) _⟩
      · have hxy' : (x == Sp.nb v) = false := by simpa using hxy
        have hk := key.out
        rw [if_neg hxy] at hk
        clear key
        have HK' : Hid (Sp.hs s.data.toList (Sp.nb v) f' (i + 1) = R) := hk; clear hk
        go_wp2_with fail
        go_quiet (fail)
        go_wp2_with fail
        go_roundw
        case rel => exact ⟨i + 1, f', by omega, by go_num, by omega, HK'.out, _, rfl⟩
        case measure => simp [intOf]; omega
    · have hk := HD.out
      unfold Sp.hs at hk
      rw [HS.out, if_neg (by omega)] at hk
      subst hk
      go_wp2_with fail
      go_ret
      exact ⟨rfl, below_drewN hb _⟩

theorem common_any (s t : ByteArray) (n m : Nat) (w : World) (hs : s.size = 4 * n) (ht : t.size = 4 * m) (hn : n ≤ 6) (hm : m ≤ 6) :
    Calls Yba.prog 20 #[.string s, .string t] w fun e w' => e = .returned (.int .i64 (Sp.cm s.data.toList t.data.toList 13 0 0 : Nat)) ∧ ∃ nq, w' = w.drewN nq := by
  obtain ⟨R, hR⟩ : ∃ R, Sp.cm s.data.toList t.data.toList 13 0 0 = R := ⟨_, rfl⟩
  rw [hR]
  have HR : Hid (Sp.cm s.data.toList t.data.toList 13 0 0 = R) := hR; clear hR
  have HS : Hid (s.data.toList.length = 4 * n) := (size_eq s).trans hs
  have HT : Hid (t.data.toList.length = 4 * m) := (size_eq t).trans ht
  go_enter Yba.func20, Yba.ntmps20
  go_wp2
  go_loopw [5, 6, 7] (fun vn vi vj wr => ∃ i j f a : Nat, i ≤ n ∧ j ≤ m ∧ a ≤ i ∧ vi = .int .i64 (4 * i : Nat) ∧ vj = .int .i64 (4 * j : Nat) ∧ vn = .int .i64 a ∧ 13 ≤ i + j + f ∧ a + Sp.cm s.data.toList t.data.toList f i j = R ∧ ∃ nq, wr = w.drewN nq) (fun _ vi vj _ => 100 - (intOf vi).toNat - (intOf vj).toNat)
  case atStart => exact ⟨0, 0, 13, 0, Nat.zero_le _, Nat.zero_le _, Nat.le_refl _, rfl, rfl, rfl, Nat.le_refl _, by rw [Nat.zero_add]; exact HR.out, 0, rfl⟩
  case round =>
    obtain ⟨i, j, f, a, hi, hj, ha, rfl, rfl, rfl, hf, hd, nq, rfl⟩ := hrel
    obtain ⟨f', rfl⟩ : ∃ f', f = f' + 1 := ⟨f - 1, by omega⟩
    have HD : Hid (a + Sp.cm s.data.toList t.data.toList (f' + 1) i j = R) := hd; clear hd
    by_cases hin : i < n
    · by_cases hjm : j < m
      · have key : Hid (a + (if (Sp.ck s.data.toList i == Sp.ck t.data.toList j) = true then Sp.cm s.data.toList t.data.toList f' (i + 1) (j + 1) + 1 else if Op.bytesLess (Sp.ck s.data.toList i) (Sp.ck t.data.toList j) = true then Sp.cm s.data.toList t.data.toList f' (i + 1) j else Sp.cm s.data.toList t.data.toList f' i (j + 1)) = R) := by
          have h := HD.out
          unfold Sp.cm at h
          rw [HS.out, HT.out, if_pos ⟨by omega, by omega⟩] at h
          exact h
        have e1 := ck_eq s i
        have e2 := ck_eq t j
        generalize Sp.ck s.data.toList i = x at *
        generalize Sp.ck t.data.toList j = y at *
        by_cases hxy : (x == y) = true
        · have hk := key.out
          rw [if_pos hxy] at hk
          have HK' : Hid (a + 1 + Sp.cm s.data.toList t.data.toList f' (i + 1) (j + 1) = R) := by
            show _ = R
            omega
          clear key hk
          go_wp2_with fail
          go_quiet (fail)
          go_wp2_with fail
          go_roundw
          case rel => exact ⟨i + 1, j + 1, f', a + 1, by omega, by omega, by omega, by go_num, by go_num, by go_num, by omega, HK'.out, _, rfl⟩
          case measure => simp [intOf]; omega
        · have hxy' : (x == y) = false := by simpa using hxy
          by_cases hlt : Op.bytesLess x y = true
          · have hk := key.out
            rw [if_neg hxy, if_pos hlt] at hk
            clear key
            have HK' : Hid (a + Sp.cm s.data.toList t.data.toList f' (i + 1) j = R) := hk; clear hk
            go_wp2_with fail
            go_quiet (fail)
            go_wp2_with fail
            go_roundw
            case rel => exact ⟨i + 1, j, f', a, by omega, hj, by omega, by go_num, rfl, rfl, by omega, HK'.out, _, rfl⟩
            case measure => simp [intOf]; omega
          · have hlt' : Op.bytesLess x y = false := by simpa using hlt
            have hk := key.out
            rw [if_neg hxy, if_neg hlt] at hk
            clear key
            have HK' : Hid (a + Sp.cm s.data.toList t.data.toList f' i (j + 1) = R) := hk; clear hk
            go_wp2_with fail
            go_quiet (fail)
            go_wp2_with fail
            go_roundw
            case rel => exact ⟨i, j + 1, f', a, hi, by omega, ha, rfl, by go_num, rfl, by omega, HK'.out, _, rfl⟩
            case measure => simp [intOf]; omega
      · have hk := HD.out
        unfold Sp.cm at hk
        rw [HS.out, HT.out, if_neg (by omega)] at hk
        have hk' : a = R := hk
        subst hk'
        go_wp2_with fail
        go_ret
        exact ⟨rfl, _, rfl⟩
    · have hk := HD.out
      unfold Sp.cm at hk
      rw [HS.out, HT.out, if_neg (by omega)] at hk
      have hk' : a = R := hk
      subst hk'
      go_wp2_with fail
      go_ret
      exact ⟨rfl, _, rfl⟩

/-- What With's last row computes, its parts as values of their own. -/
theorem with_parts (s : ByteArray) (n i v : Nat) (hs : s.size = 4 * n) (hn : n ≤ 6) (hi : i ≤ n) :
    ∃ p q pr r : ByteArray, (∀ w, (Instr.slice 30 (.string s) none (some (.int .i64 (4 * (i : Int)))) none).run Yba.prog w = .ok (.string p) w) ∧
      (∀ w, (Instr.slice 30 (.string s) (some (.int .i64 (4 * (i : Int)))) none none).run Yba.prog w = .ok (.string q) w) ∧
      (∀ w, (Op.stringOp .add p (nbS v)).run Yba.prog w = .ok (.string pr) w) ∧ (∀ w, (Op.stringOp .add pr q).run Yba.prog w = .ok (.string r) w) ∧
      r.data.toList = s.data.toList.take (4 * i) ++ Sp.nb v ++ s.data.toList.drop (4 * i) := by
  have ti : (4 * (i : Int)).toNat = 4 * i := by omega
  have l1 : (s.extract 0 (4 * i)).data.toList = s.data.toList.take (4 * i) := by rw [Lib.extract_data]; simp
  have l2 : (s.extract (4 * i) s.size).data.toList = s.data.toList.drop (4 * i) := by
    rw [Lib.extract_data]
    apply List.take_of_length_le
    rw [List.length_drop, size_eq]
    exact Nat.le_refl _
  have z1 : (s.extract 0 (4 * i)).size ≤ 24 := by
    rw [← size_eq, l1, List.length_take, size_eq]; omega
  have z2 : (s.extract (4 * i) s.size).size ≤ 24 := by
    rw [← size_eq, l2, List.length_drop, size_eq]; omega
  have z3 : (nbS v).size = 4 := rfl
  refine ⟨s.extract 0 (4 * i), s.extract (4 * i) s.size, s.extract 0 (4 * i) ++ nbS v, s.extract 0 (4 * i) ++ nbS v ++ s.extract (4 * i) s.size, fun w => ?_, fun w => ?_, fun w => ?_, fun w => ?_, ?_⟩
  · rw [run_slice_string_to_if w 30 s .i64 _ Yba.underlying30, if_pos (by omega), ti]
  · rw [run_slice_string_from_if w 30 s .i64 _ Yba.underlying30, if_pos (by omega), ti]
  · exact run_string_add_sum w _ _ (by omega)
  · exact run_string_add_sum w _ _ (by rw [ByteArray.size_append]; omega)
  · rw [ByteArray.data_append, ByteArray.data_append, Array.toList_append, Array.toList_append, l1, l2]
    rfl

theorem with_any (s : ByteArray) (n v : Nat) (w : World) (hs : s.size = 4 * n) (hn : n ≤ 6) (hv : v < 4294967296) :
    Calls Yba.prog 16 #[.string s, .int .i64 v] w fun e w' => (∃ r : ByteArray, e = .returned (.string r) ∧ r.data.toList = Sp.withL s.data.toList (Sp.nb v)) ∧ Below w.heap.size w w' := by
  obtain ⟨R, hR⟩ : ∃ R, Sp.wp s.data.toList (Sp.nb v) 7 0 = R := ⟨_, rfl⟩
  have HR : Hid (Sp.wp s.data.toList (Sp.nb v) 7 0 = R) := hR
  have HW : Hid (Sp.withL s.data.toList (Sp.nb v) = s.data.toList.take (4 * R) ++ Sp.nb v ++ s.data.toList.drop (4 * R)) := by
    show _ = _
    unfold Sp.withL
    rw [hR]
  clear hR
  have HS : Hid (s.data.toList.length = 4 * n) := (size_eq s).trans hs
  go_enter Yba.func16, Yba.ntmps16
  go_wp2_with fail
  refine (bytesOf_any v w hv).mono ?_
  rintro e w1 ⟨rfl, rfl⟩
  go_wp2_with fail
  have hg : ((w.alloc (.cells (nbCells v) 46)).alloc (.cells (nbCells v) 46)).heap[w.heap.size + 1]? = some (.cells (nbCells v) 46 (0, 0)) := by
    have := heap_alloc_new (w.alloc (.cells (nbCells v) 46)) (.cells (nbCells v) 46)
    rw [World.size_alloc] at this
    exact this
  have hb : Below w.heap.size w ((w.alloc (.cells (nbCells v) 46)).alloc (.cells (nbCells v) 46)) := ((Below.refl _ w).alloc (Nat.le_refl _) _).alloc (by simp) _
  change Code.wp _ _ _ _ ((w.alloc (.cells (nbCells v) 46)).alloc (.cells (nbCells v) 46))
  generalize (w.alloc (.cells (nbCells v) 46)).alloc (.cells (nbCells v) 46) = W0 at *
  have hcv : ∀ nq, (convert 26 30 (.slice (some ⟨w.heap.size + 1, 0, none⟩) 4 4)).run Yba.prog (W0.drewN nq) = .ok (.string (nbS v)) (W0.drewN nq) := fun nq => conv_run v _ _ hv hg
  have hcv2 : ∀ nq nq', (convert 26 30 (.slice (some ⟨w.heap.size + 1, 0, none⟩) 4 4)).run Yba.prog ((W0.drewN nq).drewN nq') = .ok (.string (nbS v)) ((W0.drewN nq).drewN nq') := fun nq nq' => conv_run v _ _ hv hg
  have hcv3 : ∀ nq nq' nq'', (convert 26 30 (.slice (some ⟨w.heap.size + 1, 0, none⟩) 4 4)).run Yba.prog (((W0.drewN nq).drewN nq').drewN nq'') = .ok (.string (nbS v)) (((W0.drewN nq).drewN nq').drewN nq'') := fun nq nq' nq'' => conv_run v _ _ hv hg
  have hnl := nbS_list v
  go_loopw [6] (fun vi wr => ∃ i f : Nat, i ≤ n ∧ vi = .int .i64 (4 * i : Nat) ∧ i + f = 7 ∧ Sp.wp s.data.toList (Sp.nb v) f i = R ∧ ∃ nq, wr = W0.drewN nq) (fun vi _ => 100 - (intOf vi).toNat)
  case atStart => exact ⟨0, 7, Nat.zero_le _, rfl, rfl, HR.out, 0, rfl⟩
  case round =>
    obtain ⟨i, f, hi, rfl, hf, hd, nq, rfl⟩ := hrel
    obtain ⟨f', rfl⟩ : ∃ f', f = f' + 1 := ⟨f - 1, by omega⟩
    have HD : Hid (Sp.wp s.data.toList (Sp.nb v) (f' + 1) i = R) := hd; clear hd
    by_cases hin : i < n
    · have key : Hid ((if Op.bytesLess (Sp.ck s.data.toList i) (Sp.nb v) = true then Sp.wp s.data.toList (Sp.nb v) f' (i + 1) else i) = R) := by
        have h := HD.out
        unfold Sp.wp at h
        rw [HS.out] at h
        show _ = R
        by_cases hb : Op.bytesLess (Sp.ck s.data.toList i) (Sp.nb v) = true
        · rw [if_pos ⟨by omega, hb⟩] at h
          rw [if_pos hb]; exact h
        · rw [if_neg (fun hc => hb hc.2)] at h
          rw [if_neg hb]; exact h
      have e1 := ck_eq s i
      generalize Sp.ck s.data.toList i = x at *
      by_cases hlt : Op.bytesLess x (Sp.nb v) = true
      · have hk := key.out
        rw [if_pos hlt] at hk
        clear key
        have HK' : Hid (Sp.wp s.data.toList (Sp.nb v) f' (i + 1) = R) := hk; clear hk
        go_wp2_with fail
        go_quiet (fail)
        go_wp2_with fail
        go_roundw
        case rel => exact ⟨i + 1, f', by omega, by go_num, by omega, HK'.out, _, rfl⟩
        case measure => simp [intOf]; omega
      · have hlt' : Op.bytesLess x (Sp.nb v) = false := by simpa using hlt
        have hk := key.out
        rw [if_neg hlt] at hk
        clear key
        subst hk
        obtain ⟨p, q, pr, r, f1, f2, f3, f4, hr⟩ := with_parts s n i v hs hn hi
        have HF : Hid (r.data.toList = Sp.withL s.data.toList (Sp.nb v)) := hr.trans HW.out.symm
        clear hr
        go_wp2_with fail
        go_quiet (fail)
        go_wp2_with fail
        go_quiet (fail)
        go_wp2_with fail
        go_ret
        exact ⟨⟨r, rfl, HF.out⟩, below_drewN (below_drewN (below_drewN hb _) _) _⟩
    · have hd : decide (((4 * i : Nat) : Int) < (s.size : Int)) = false := decide_eq_false (by omega)
      have hk := HD.out
      unfold Sp.wp at hk
      rw [HS.out, if_neg (by omega)] at hk
      subst hk
      obtain ⟨p, q, pr, r, f1, f2, f3, f4, hr⟩ := with_parts s n i v hs hn hi
      have HF : Hid (r.data.toList = Sp.withL s.data.toList (Sp.nb v)) := hr.trans HW.out.symm
      clear hr
      go_wp2_with fail
      go_quiet (fail)
      go_wp2_with fail
      go_quiet (fail)
      go_wp2_with fail
      go_ret
      exact ⟨⟨r, rfl, HF.out⟩, below_drewN (below_drewN (below_drewN hb _) _) _⟩
end Go.Proofs.Ybulkavmc.Ns

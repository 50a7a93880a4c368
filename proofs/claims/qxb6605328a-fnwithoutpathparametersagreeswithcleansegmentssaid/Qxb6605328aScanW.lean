import Derived.Test.Qxb6605328aCutW
import Derived.OwnWalk
import Derived.Laws.IdiomStrings
namespace Go.Proofs.Qxb6605328a
open Go.RowKit
namespace W

theorem take_snoc (s : ByteArray) (k : Nat) (h : k < s.size) : s.data.toList.take (k + 1) = s.data.toList.take k ++ [s[k]] := by
  rw [List.take_succ_eq_append_getElem (by simpa using h)]; rfl
theorem drop_at (s : ByteArray) (k : Nat) (h : k < s.size) : s.data.toList.drop k = s[k] :: s.data.toList.drop (k + 1) := by
  rw [List.drop_eq_getElem_cons (by simpa using h)]; rfl
theorem u8_ext {a b : UInt8} (h : (a.toNat : Int) = (b.toNat : Int)) : a = b := UInt8.toNat_inj.1 (by omega)

theorem bytes15_any (s : ByteArray) (w : World) (hs : s.size ≤ maxLen) :
    Calls Try.prog 15 #[.string s] w fun e w' => e = .returned (.bool (decide (s.size ≤ 1048576))) ∧ w' = w := by
  unfold maxLen at hs
  by_cases h : s.size ≤ 1048576
  · have h1 : ¬ (1048576 : Int) < s.size := by omega
    rw [decide_eq_true h]
    go_enter Try.func15, Try.ntmps15
    go_wp2
    go_ret
    exact ⟨rfl, rfl⟩
  · have h1 : (1048576 : Int) < s.size := by omega
    rw [decide_eq_false h]
    go_enter Try.func15, Try.ntmps15
    go_wp2
    go_ret
    exact ⟨rfl, rfl⟩

theorem fnd_idx (s : ByteArray) (c : UInt8) : decide (0 ≤ firstIdx s c) = fnd c s.data.toList := by rw [firstIdx_nonneg]; rfl

theorem hasPar_any (s : ByteArray) (w : World) :
    Calls Try.prog 22 #[.string s] w fun e w' => e = .returned (.bool (fnd 59 s.data.toList)) ∧ w' = w := by
  have hc : ((59 : Int)).toNat.toUInt8 = 59 := rfl
  rw [← fnd_idx s 59]
  go_enter Try.func22, Try.ntmps22
  go_wp2_with (go_at_call 27; refine (indexByte_any _ _ _).mono ?_; rintro e w' ⟨rfl, hw⟩; rw [hw, hc])
  go_ret
  exact ⟨rfl, rfl⟩

theorem fnd_snoc (c : UInt8) (l : List UInt8) (a : UInt8) : fnd c (l ++ [a]) = (fnd c l || a == c) := by simp [fnd]
theorem fnd_hit (s : ByteArray) (k : Nat) (h : k < s.size) (c : UInt8) (hc : s[k] = c) : fnd c s.data.toList = true := by
  unfold fnd
  rw [List.any_eq_true]
  exact ⟨s[k], Array.getElem_mem_toList (xs := s.data) h, by simp [hc]⟩

set_option maxRecDepth 1000000 in
set_option maxHeartbeats 1000000 in
theorem hasByte_any (s : ByteArray) (c : UInt8) (w : World) (hs : s.size ≤ 1000000) :
    Calls Try.prog 17 #[.string s, .int .u8 (c.toNat : Int)] w fun e w' => e = .returned (.bool (fnd c s.data.toList)) ∧ w' = w := by
  go_enter Try.func17, Try.ntmps17
  go_wp2
  go_loop [5] (fun i => ∃ k : Nat, k ≤ s.size ∧ i = .int .i64 k ∧ Hid (fnd c (s.data.toList.take k) = false)) (fun i => s.size - (intOf i).toNat)
  case atStart => exact ⟨0, by omega, rfl, rfl⟩
  case round =>
    obtain ⟨k, hk, rfl, HS⟩ := hrel
    by_cases hlt : k < s.size
    · by_cases hc : (s[k].toNat : Int) = (c.toNat : Int)
      · have hcb : ((s[k].toNat : Int) == (c.toNat : Int)) = true := by rw [beq_iff_eq]; exact hc
        have HH : Hid _ := fnd_hit s k hlt c (u8_ext hc)
        clear hc
        go_wp2
        go_ret
        exact ⟨ret_bool HH.out.symm, rfl⟩
      · have hcb : ((s[k].toNat : Int) == (c.toNat : Int)) = false := by rw [beq_eq_false_iff_ne]; exact hc
        have HH : Hid (fnd c (s.data.toList.take (k + 1)) = false) := by
          show _ = _
          rw [take_snoc s k hlt, fnd_snoc, HS.out, Bool.false_or, beq_eq_false_iff_ne]
          intro e
          exact hc (by rw [e])
        clear hc
        go_wp2
        go_round
        case rel => exact ⟨k + 1, by omega, by go_num, HH⟩
        case measure => simp [intOf]; omega
    · obtain rfl : k = s.size := by omega
      have HE : Hid (fnd c s.data.toList = false) := by
        have := HS.out
        rwa [List.take_of_length_le (by simp)] at this
      go_wp2
      go_ret
      exact ⟨ret_bool HE.out.symm, rfl⟩

theorem dot_c1 {B : ByteArray} {l : List UInt8} (H : B.toList = l) (h : B.toList = [46]) : true = dotS l := by rw [← H, h]; rfl
theorem dot_c2 {B : ByteArray} {l : List UInt8} (H : B.toList = l) : (B.toList == [46] || B.toList == [46, 46]) = dotS l := by rw [H]; rfl
set_option maxRecDepth 1000000 in
set_option maxHeartbeats 1000000 in
theorem isDot_any (s : ByteArray) (w : World) (hs : s.size ≤ 1000000) (hno : fnd 47 s.data.toList = false) :
    Calls Try.prog 24 #[.string s] w fun e w' => e = .returned (.bool (dotS s.data.toList)) ∧ ∃ n, w' = w.drewN n := by
  have HN : Hid _ := bef_same 47 s.data.toList hno
  clear hno
  go_enter Try.func24, Try.ntmps24
  go_wp2_with fail
  refine (cut_any s 47 _ hs).mono ?_
  rintro e w' ⟨B, A, f, n, rfl, hf, hB, hA, hw⟩
  have H : Hid (B.toList = s.data.toList) := by
    show _ = _
    rw [Lib.toList_data, hB, HN.out]
  clear hf hB hA
  rw [hw]
  go_wp2_with fail
  all_goals
    go_ret
    first
      | exact ⟨ret_bool (dot_c2 H.out), n, rfl⟩
      | exact ⟨ret_bool (dot_c1 H.out (by assumption)), n, rfl⟩

/-! 'hasDotSegmentB1' -/
def dotAny (l : List UInt8) : Bool := (segs l).any dotS
theorem segs_app (g t : List UInt8) (h : fnd 47 g = false) : segs (g ++ 47 :: t) = g :: segs t := by
  induction g with
  | nil => exact segs_47 t
  | cons a g ih =>
    rw [fnd_cons, Bool.or_eq_false_iff] at h
    rw [List.cons_append]
    exact segs_o a _ _ _ (by simpa using h.1) (ih h.2)
theorem segs_one (g : List UInt8) (h : fnd 47 g = false) : segs g = [g] := by
  rw [segs_cut, h]; rfl
/-- The bytes from st to j. -/
def win (s : ByteArray) (st j : Nat) : List UInt8 := (s.data.toList.drop st).take (j - st)
theorem win_nil (s : ByteArray) (st : Nat) : win s st st = [] := by simp [win]
theorem win_cons (s : ByteArray) (st j : Nat) (h : st < s.size) (hj : st < j) : win s st j = s[st] :: win s (st + 1) j := by
  unfold win
  rw [drop_at s st h]
  obtain ⟨m, rfl⟩ : ∃ m, j = st + 1 + m := ⟨j - (st + 1), by omega⟩
  rw [show st + 1 + m - st = m + 1 from by omega, show st + 1 + m - (st + 1) = m from by omega]
  rfl
theorem win_snoc (s : ByteArray) (st j : Nat) (h : st ≤ j) (hj : j < s.size) : win s st (j + 1) = win s st j ++ [s[j]] := by
  unfold win
  rw [show j + 1 - st = (j - st) + 1 from by omega, List.take_succ_eq_append_getElem (by simp; omega)]
  congr 2
  rw [List.getElem_drop]
  simp only [show st + (j - st) = j from by omega]
  rfl
theorem win_len (s : ByteArray) (st j : Nat) (h : st ≤ j) (hj : j ≤ s.size) : (win s st j).length = j - st := by
  unfold win
  simp; omega
theorem win_split (s : ByteArray) (st j : Nat) (h : st ≤ j) (hj : j < s.size) : s.data.toList.drop st = win s st j ++ s[j] :: s.data.toList.drop (j + 1) := by
  unfold win
  conv => lhs; rw [← List.take_append_drop (j - st) (s.data.toList.drop st)]
  rw [List.drop_drop, show st + (j - st) = j from by omega, drop_at s j hj]
theorem win_end (s : ByteArray) (st : Nat) : win s st s.size = s.data.toList.drop st := by
  unfold win
  exact List.take_of_length_le (by simp)
theorem dot_one (s : ByteArray) (st : Nat) (h : st < s.size) : dotS (win s st (st + 1)) = (s[st] == 46) := by
  rw [win_cons s st _ h (by omega), win_nil]
  unfold dotS
  cases hb : (s[st] == 46) <;> simp_all
theorem dot_two (s : ByteArray) (st : Nat) (h : st + 1 < s.size) : dotS (win s st (st + 2)) = (s[st] == 46 && s[st + 1] == 46) := by
  rw [win_cons s st _ (by omega) (by omega), win_cons s (st + 1) _ h (by omega), win_nil]
  unfold dotS
  cases hb : (s[st] == 46) <;> simp_all
theorem dot_no (s : ByteArray) (st j : Nat) (h : st ≤ j) (hj : j ≤ s.size) (h1 : j ≠ st + 1) (h2 : j ≠ st + 2) : dotS (win s st j) = false := by
  have hl := win_len s st j h hj
  unfold dotS
  rw [Bool.or_eq_false_iff, beq_eq_false_iff_ne, beq_eq_false_iff_ne]
  constructor <;> (intro e; rw [e] at hl; simp at hl; omega)
theorem seg_mid (s : ByteArray) (st j : Nat) (h : st ≤ j) (hj : j < s.size) (hc : s[j] = 47) (hno : fnd 47 (win s st j) = false) :
    dotAny (s.data.toList.drop st) = (dotS (win s st j) || dotAny (s.data.toList.drop (j + 1))) := by
  unfold dotAny
  rw [win_split s st j h hj, hc, segs_app _ _ hno]; rfl
theorem seg_end (s : ByteArray) (st : Nat) (hno : fnd 47 (win s st s.size) = false) : dotAny (s.data.toList.drop st) = dotS (win s st s.size) := by
  unfold dotAny
  rw [win_end] at *
  rw [segs_one _ hno]; simp

/-- How a segment's end is tested: yes. -/
def DotYes (s : ByteArray) (st j : Nat) : Prop := (∃ h : st < s.size, j = st + 1 ∧ ((s[st]'h).toNat : Int) = 46) ∨ (∃ h : st + 1 < s.size, j = st + 2 ∧ ((s[st]'(by omega)).toNat : Int) = 46 ∧ ((s[st + 1]'h).toNat : Int) = 46)
theorem dot_yes (s : ByteArray) (st j : Nat) (h : DotYes s st j) : dotS (win s st j) = true := by
  rcases h with ⟨h, rfl, e⟩ | ⟨h, rfl, e1, e2⟩
  · rw [dot_one s st h]
    have : s[st] = 46 := u8_ext (by rw [e]; rfl)
    rw [this]; rfl
  · rw [dot_two s st h]
    have h1 : s[st] = 46 := u8_ext (by rw [e1]; rfl)
    have h2 : s[st + 1] = 46 := u8_ext (by rw [e2]; rfl)
    rw [h1, h2]; rfl
theorem ne46 {a : UInt8} (h : ¬ (a.toNat : Int) = 46) : (a == 46) = false := by
  rw [beq_eq_false_iff_ne]
  intro e
  exact h (by rw [e]; rfl)

theorem dot_false (s : ByteArray) (st j : Nat) (h : st ≤ j) (hj : j ≤ s.size)
    (h1 : j = st + 1 → ∃ hs : st < s.size, ¬ ((s[st]'hs).toNat : Int) = 46)
    (h2 : j = st + 2 → ∃ hs : st + 1 < s.size, ¬ (((s[st]'(by omega)).toNat : Int) = 46 ∧ ((s[st + 1]'hs).toNat : Int) = 46)) : dotS (win s st j) = false := by
  by_cases e1 : j = st + 1
  · obtain ⟨hs, hn⟩ := h1 e1
    subst e1
    rw [dot_one s st hs, ne46 hn]
  · by_cases e2 : j = st + 2
    · obtain ⟨hs, hn⟩ := h2 e2
      subst e2
      rw [dot_two s st hs]
      by_cases e3 : ((s[st]'(by omega)).toNat : Int) = 46
      · rw [ne46 (fun e => hn ⟨e3, e⟩), Bool.and_false]
      · rw [ne46 e3, Bool.false_and]
    · exact dot_no s st j h hj e1 e2

/-- The ways through the two tests at a segment's end, each test's outcome in the walk's own words. -/
theorem dot_ways (s : ByteArray) (st j : Nat) (h : st ≤ j) (hj : j ≤ s.size) :
    (dotS (win s st j) = true ∧ ((∃ hs : st < s.size, ((j : Int) - (st : Int) == 1) = true ∧ (((s[st]'hs).toNat : Int) == 46) = true) ∨
      (∃ hs : st + 1 < s.size, ((j : Int) - (st : Int) == 1) = false ∧ ((j : Int) - (st : Int) == 2) = true ∧ (((s[st]'(by omega)).toNat : Int) == 46) = true ∧ (((s[st + 1]'hs).toNat : Int) == 46) = true))) ∨
    (dotS (win s st j) = false ∧ ((∃ hs : st < s.size, ((j : Int) - (st : Int) == 1) = true ∧ ((j : Int) - (st : Int) == 2) = false ∧ (((s[st]'hs).toNat : Int) == 46) = false) ∨
      (∃ hs : st + 1 < s.size, ((j : Int) - (st : Int) == 1) = false ∧ ((j : Int) - (st : Int) == 2) = true ∧ (((s[st]'(by omega)).toNat : Int) == 46) = false) ∨
      (∃ hs : st + 1 < s.size, ((j : Int) - (st : Int) == 1) = false ∧ ((j : Int) - (st : Int) == 2) = true ∧ (((s[st]'(by omega)).toNat : Int) == 46) = true ∧ (((s[st + 1]'hs).toNat : Int) == 46) = false) ∨
      (((j : Int) - (st : Int) == 1) = false ∧ ((j : Int) - (st : Int) == 2) = false))) := by
  simp only [beq_iff_eq, beq_eq_false_iff_ne]
  by_cases e1 : j = st + 1
  · have hs : st < s.size := by omega
    by_cases e3 : ((s[st]'hs).toNat : Int) = 46
    · exact .inl ⟨dot_yes s st j (.inl ⟨hs, e1, e3⟩), .inl ⟨hs, by omega, e3⟩⟩
    · exact .inr ⟨dot_false s st j h hj (fun _ => ⟨hs, e3⟩) (fun e => by omega), .inl ⟨hs, by omega, by omega, e3⟩⟩
  · by_cases e2 : j = st + 2
    · have hs : st + 1 < s.size := by omega
      by_cases e3 : ((s[st]'(by omega)).toNat : Int) = 46
      · by_cases e4 : ((s[st + 1]'hs).toNat : Int) = 46
        · exact .inl ⟨dot_yes s st j (.inr ⟨hs, e2, e3, e4⟩), .inr ⟨hs, by omega, by omega, e3, e4⟩⟩
        · exact .inr ⟨dot_false s st j h hj (fun e => by omega) (fun _ => ⟨hs, fun e => e4 e.2⟩), .inr (.inr (.inl ⟨hs, by omega, by omega, e3, e4⟩))⟩
      · exact .inr ⟨dot_false s st j h hj (fun e => by omega) (fun _ => ⟨hs, fun e => e3 e.1⟩), .inr (.inl ⟨hs, by omega, by omega, e3⟩)⟩
    · exact .inr ⟨dot_no s st j h hj e1 e2, .inr (.inr (.inr ⟨by omega, by omega⟩))⟩

set_option maxRecDepth 1000000 in
set_option maxHeartbeats 4000000 in
theorem hasDot_any (s : ByteArray) (w : World) (hs : s.size ≤ 1000000) :
    Calls Try.prog 19 #[.string s] w fun e w' => e = .returned (.bool (dotAny s.data.toList.tail)) ∧ w' = w := by
  go_enter Try.func19, Try.ntmps19
  go_wp2
  go_loop [3, 4, 5] (fun a b _ => ∃ st j : Nat, 1 ≤ st ∧ st ≤ j ∧ a = .int .i64 st ∧ b = .int .i64 j ∧ j ≤ s.size + 1 ∧ Hid ((j ≤ s.size ∧ dotAny s.data.toList.tail = dotAny (s.data.toList.drop st) ∧ fnd 47 (win s st j) = false) ∨ (j = s.size + 1 ∧ dotAny s.data.toList.tail = false))) (fun _ b _ => s.size + 1 - (intOf b).toNat)
  case atStart =>
    refine ⟨1, 1, by omega, by omega, rfl, rfl, by omega, ?_⟩
    by_cases h : 1 ≤ s.size
    · exact .inl ⟨h, by rw [List.drop_one], by rw [win_nil]; rfl⟩
    · refine .inr ⟨by omega, ?_⟩
      have : s.data.toList.tail = [] := by rw [← List.drop_one]; exact List.drop_of_length_le (by simp; omega)
      rw [this]; rfl
  case round =>
    obtain ⟨st, j, h1, hsj, rfl, rfl, hj, HS⟩ := hrel
    by_cases hle : j ≤ s.size
    · have hS : dotAny s.data.toList.tail = dotAny (s.data.toList.drop st) ∧ fnd 47 (win s st j) = false := by
        rcases HS.out with h | h
        · exact h.2
        · omega
      clear HS
      have HD : Hid _ := hS.1
      have HN : Hid _ := hS.2
      clear hS
      have hleI : (j : Int) ≤ (s.size : Int) := by omega
      by_cases hlt : j < s.size
      · by_cases h47 : (s[j].toNat : Int) = 47
        · have h47b : ((s[j].toNat : Int) != 47) = false := by rw [bne_eq_false_iff_eq]; exact h47
          have HM : Hid _ := seg_mid s st j hsj hlt (u8_ext (by rw [h47]; rfl)) HN.out
          clear h47
          rcases dot_ways s st j hsj hle with ⟨hd, hw⟩ | ⟨hd, hw⟩
          · have HE : Hid (dotAny s.data.toList.tail = true) := by
              show _ = _
              rw [HD.out, HM.out, hd]; rfl
            clear hd
            rcases hw with ⟨hx, g1, g2⟩ | ⟨hx, g1, g2, g3, g4⟩
            all_goals
              go_wp2
              go_ret
              exact ⟨ret_bool HE.out.symm, rfl⟩
          · have HE : Hid (dotAny s.data.toList.tail = dotAny (s.data.toList.drop (j + 1))) := by
              show _ = _
              rw [HD.out, HM.out, hd]; rfl
            clear hd
            rcases hw with ⟨hx, g1, g2, g3⟩ | ⟨hx, g1, g2, g3⟩ | ⟨hx, g1, g2, g3, g4⟩ | ⟨g1, g2⟩
            all_goals
              go_wp2
              go_round
              case rel => exact ⟨j + 1, j + 1, by omega, by omega, by go_num, by go_num, by omega, .inl ⟨by omega, HE.out, by rw [win_nil]; rfl⟩⟩
              case measure => simp [intOf]; omega
        · have h47b : ((s[j].toNat : Int) != 47) = true := by rw [bne_iff_ne]; exact h47
          have HW : Hid (fnd 47 (win s st (j + 1)) = false) := by
            show _ = _
            rw [win_snoc s st j hsj hlt, fnd_snoc, HN.out, Bool.false_or, beq_eq_false_iff_ne]
            intro e
            exact h47 (by rw [e]; rfl)
          clear h47
          go_wp2
          go_round
          case rel => exact ⟨st, j + 1, by omega, by omega, rfl, by go_num, by omega, .inl ⟨by omega, HD.out, HW.out⟩⟩
          case measure => simp [intOf]; omega
      · obtain rfl : j = s.size := by omega
        have HM : Hid _ := seg_end s st HN.out
        rcases dot_ways s st s.size hsj hle with ⟨hd, hw⟩ | ⟨hd, hw⟩
        · have HE : Hid (dotAny s.data.toList.tail = true) := by
            show _ = _
            rw [HD.out, HM.out, hd]
          clear hd
          rcases hw with ⟨hx, g1, g2⟩ | ⟨hx, g1, g2, g3, g4⟩
          all_goals
            go_wp2
            go_ret
            exact ⟨ret_bool HE.out.symm, rfl⟩
        · have HE : Hid (dotAny s.data.toList.tail = false) := by
            show _ = _
            rw [HD.out, HM.out, hd]
          clear hd
          rcases hw with ⟨hx, g1, g2, g3⟩ | ⟨hx, g1, g2, g3⟩ | ⟨hx, g1, g2, g3, g4⟩ | ⟨g1, g2⟩
          all_goals
            go_wp2
            go_round
            case rel => exact ⟨s.size + 1, s.size + 1, by omega, by omega, by go_num, by go_num, by omega, .inr ⟨rfl, HE.out⟩⟩
            case measure => simp [intOf]
    · have HE : Hid (dotAny s.data.toList.tail = false) := by
        show _ = _
        rcases HS.out with h | h
        · omega
        · exact h.2
      have hgt : ¬ (j : Int) ≤ (s.size : Int) := by omega
      clear HS
      go_wp2
      go_ret
      exact ⟨ret_bool HE.out.symm, rfl⟩
end W
end Go.Proofs.Qxb6605328a

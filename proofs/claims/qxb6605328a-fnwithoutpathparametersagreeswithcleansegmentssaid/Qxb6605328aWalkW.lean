import Derived.Test.Qxb6605328aWppW
namespace Go.Proofs.Qxb6605328a.fnWithoutPathParametersAgreesWithCleanSegments
open Go.RowKit W

theorem semi_any (s : ByteArray) (w : World) (hs : s.size ≤ 1000000) :
    Calls Try.prog 17 #[.string s, .int .u8 59] w fun e w' => e = .returned (.bool (fnd 59 s.data.toList)) ∧ w' = w := hasByte_any s 59 w hs

theorem ZZc_any (p : ByteArray) (w : World) (hs : p.size ≤ 1000000) (h1 : 1 ≤ p.size) (hno : dotAny p.data.toList.tail = false) :
    Calls Try.prog 11 #[.string p] w fun e w' => e = .returned (.string ⟨(cl (segs p.data.toList.tail) []).toArray⟩) ∧ Below w.heap.size w w' := by
  go_enter Try.func11, Try.ntmps11
  go_wp2_with fail
  refine (clean_any p _ hs h1 hno).mono ?_
  rintro e w1 ⟨rfl, hb⟩
  go_wp2_with fail
  go_ret
  exact ⟨rfl, hb⟩

theorem outV_some (L : List UInt8) : outV (some L) = .tuple #[.string ⟨L.toArray⟩, .bool true] := rfl
theorem mk_size (l : List UInt8) : (⟨l.toArray⟩ : ByteArray).size = l.length := by
  show l.toArray.size = _
  simp
theorem head_of (a : ByteArray) (h : 1 ≤ a.size) (h47 : ((a[0]'(by omega)).toNat : Int) = 47) : a.data.toList = 47 :: a.data.toList.tail := by
  have h0 := drop_at a 0 (by omega)
  rw [List.drop_zero] at h0
  have : a[0] = 47 := u8_ext (by rw [h47]; rfl)
  rw [this] at h0
  rw [h0]; rfl

set_option maxRecDepth 1000000 in
set_option maxHeartbeats 4000000 in
theorem walk (a0 : ByteArray) (w0 : a0.size ≤ maxLen) (w : World) :
    Calls Try.prog 6 #[.string a0] w fun e w' => e = .returned (.bool true) ∧ Below w.heap.size w w' := by
  by_cases hsz : a0.size ≤ 1048576
  · by_cases h16 : a0.size ≤ 65536
    · have hsz1 : ¬ (65536 : Int) < (a0.size : Int) := by omega
      by_cases hbad : ∃ h : 0 < a0.size, ¬ ((a0[0]'h).toNat : Int) = 47
      · obtain ⟨hp, hne⟩ := hbad
        have hpI : (0 : Int) < (a0.size : Int) := by omega
        have hb : (((a0[0]'hp).toNat : Int) != 47) = true := by rw [bne_iff_ne]; exact hne
        clear hne
        go_enter Try.func6, Try.ntmps6
        go_wp2_with (go_at_call 15; refine (bytes15_any _ _ w0).mono ?_; rintro e w' ⟨rfl, hw⟩; rw [hw, decide_eq_true hsz])
        go_ret
        exact ⟨rfl, Below.refl _ _⟩
      · cases hf : fnd 59 a0.data.toList
        · by_cases hp : 0 < a0.size
          · have hpI : (0 : Int) < (a0.size : Int) := by omega
            have hb : (((a0[0]'hp).toNat : Int) != 47) = false := by
              rw [bne_eq_false_iff_eq]
              exact Classical.byContradiction fun h => hbad ⟨hp, h⟩
            clear hbad
            go_enter Try.func6, Try.ntmps6
            go_wp2_with (first | (go_at_call 15; refine (bytes15_any _ _ w0).mono ?_; rintro e w' ⟨rfl, hw⟩; rw [hw, decide_eq_true hsz]) | (go_at_call 16; refine (without_plain _ _ hf).mono ?_; rintro e w' ⟨rfl, hw⟩; rw [hw]) | (go_at_call 17; refine (semi_any _ _ (by omega)).mono ?_; rintro e w' ⟨rfl, hw⟩; rw [hw, hf]))
            go_ret
            exact ⟨rfl, Below.refl _ _⟩
          · have hpI : ¬ (0 : Int) < (a0.size : Int) := by omega
            clear hbad
            go_enter Try.func6, Try.ntmps6
            go_wp2_with (first | (go_at_call 15; refine (bytes15_any _ _ w0).mono ?_; rintro e w' ⟨rfl, hw⟩; rw [hw, decide_eq_true hsz]) | (go_at_call 16; refine (without_plain _ _ hf).mono ?_; rintro e w' ⟨rfl, hw⟩; rw [hw]) | (go_at_call 17; refine (semi_any _ _ (by omega)).mono ?_; rintro e w' ⟨rfl, hw⟩; rw [hw, hf]))
            go_ret
            exact ⟨rfl, Below.refl _ _⟩
        · have hp : 0 < a0.size := by
            have : a0.data.toList.length = a0.size := by simp
            cases hh : a0.data.toList with
            | nil => rw [hh] at hf; simp [fnd] at hf
            | cons _ _ => rw [hh, List.length_cons] at this; omega
          have hpI : (0 : Int) < (a0.size : Int) := by omega
          have h47 : ((a0[0]'hp).toNat : Int) = 47 := Classical.byContradiction fun h => hbad ⟨hp, h⟩
          have hb : (((a0[0]'hp).toNat : Int) != 47) = false := by rw [bne_eq_false_iff_eq]; exact h47
          have hl := head_of a0 hp h47
          clear hbad h47
          obtain ⟨r, hr⟩ : ∃ r, r = a0.data.toList.tail := ⟨_, rfl⟩
          have hrl : r.length + 1 = a0.size := by
            have : a0.data.toList.length = a0.size := by simp
            rw [hl, List.length_cons, ← hr] at this
            exact this
          have hq : strp false a0.data.toList = 47 :: strp false r := by rw [hl, strp_47, ← hr]
          have hql := strp_len false r
          obtain ⟨q, hqq⟩ : ∃ q : ByteArray, q = ⟨(strp false a0.data.toList).toArray⟩ := ⟨_, rfl⟩
          have hqs : q.size ≤ a0.size := by rw [hqq, mk_size, hq, List.length_cons]; omega
          have hq1 : 1 ≤ q.size := by rw [hqq, mk_size, hq, List.length_cons]; omega
          have hqt : q.data.toList.tail = strp false r := by rw [hqq]; simp [hq]
          have HQ : Hid (strp false a0.data.toList = strp false a0.data.toList ∧ (⟨(strp false a0.data.toList).toArray⟩ : ByteArray) = q) := ⟨rfl, hqq.symm⟩
          have HR : Hid _ := hr
          have HT : Hid _ := hqt
          clear hl hq hqq hqt hr
          cases hdd : dotAny (strp false r)
          · have HW : Hid (wp (segs a0.data.toList.tail) [] = some (cl (segs (strp false r)) [])) := by
              show _ = _
              rw [← HR.out]
              exact plain_kept r hdd
            have HD : Hid _ := hdd
            have HS : Hid _ := plain_semi r
            have hLl := plain_len r
            obtain ⟨L, hL⟩ : ∃ L, L = cl (segs (strp false r)) [] := ⟨_, rfl⟩
            rw [← hL] at HW HS hLl
            have HL : Hid _ := hL
            clear hdd hL
            obtain ⟨G, hG⟩ : ∃ G : ByteArray, G = ⟨L.toArray⟩ := ⟨_, rfl⟩
            have hGs : G.size ≤ a0.size := by rw [hG, mk_size]; omega
            have hGI : (G.size : Int) ≤ (a0.size : Int) := by omega
            have HG : Hid ((⟨L.toArray⟩ : ByteArray) = G ∧ fnd 59 G.data.toList = false) := ⟨hG.symm, by rw [hG]; simpa using HS.out⟩
            have HC : Hid ((⟨(cl (segs q.data.toList.tail) []).toArray⟩ : ByteArray) = G) := by
              show _ = _
              rw [HT.out, ← HL.out, hG]
            clear hG hLl
            go_enter Try.func6, Try.ntmps6
            go_wp2_with (first | (go_at_call 15; refine (bytes15_any _ _ w0).mono ?_; rintro e w' ⟨rfl, hw⟩; rw [hw, decide_eq_true hsz]))
            refine (without_any a0 _ (by omega) hp hf (some L) HW.out).mono ?_
            rintro e w1 ⟨rfl, hb1⟩
            rw [outV_some, HG.out.1]
            go_wp2_with fail
            refine (semi_any _ _ (by omega)).mono ?_
            rintro e w' ⟨rfl, hw⟩
            rw [hw, hf]
            go_wp2_with fail
            refine (strip_any a0 _ (by omega)).mono ?_
            rintro e w2 ⟨rfl, hb2⟩
            rw [HQ.out.2]
            go_wp2_with fail
            refine (hasDot_any q _ (by omega)).mono ?_
            rintro e w' ⟨rfl, hw⟩
            rw [hw, HT.out, HD.out]
            go_wp2_with fail
            refine (ZZc_any q _ (by omega) hq1 (by rw [HT.out]; exact HD.out)).mono ?_
            rintro e w3 ⟨rfl, hb3⟩
            rw [HC.out]
            go_wp2_with fail
            refine (semi_any _ _ (by omega)).mono ?_
            rintro e w' ⟨rfl, hw⟩
            rw [hw, HG.out.2]
            go_wp2_with fail
            go_ret
            exact ⟨rfl, (hb1.trans (hb2.mono hb1.size)).trans (hb3.mono (by have := hb1.size; have := hb2.size; omega))⟩
          · have HW : Hid (wp (segs a0.data.toList.tail) [] = none) := by
              show _ = _
              rw [← HR.out]
              exact plain_refused r hdd
            have HD : Hid _ := hdd
            clear hdd
            go_enter Try.func6, Try.ntmps6
            go_wp2_with (first | (go_at_call 15; refine (bytes15_any _ _ w0).mono ?_; rintro e w' ⟨rfl, hw⟩; rw [hw, decide_eq_true hsz]))
            refine (without_any a0 _ (by omega) hp hf none HW.out).mono ?_
            rintro e w1 ⟨rfl, hb1⟩
            unfold outV
            go_wp2_with fail
            refine (semi_any _ _ (by omega)).mono ?_
            rintro e w' ⟨rfl, hw⟩
            rw [hw, hf]
            go_wp2_with fail
            refine (strip_any a0 _ (by omega)).mono ?_
            rintro e w2 ⟨rfl, hb2⟩
            rw [HQ.out.2]
            go_wp2_with fail
            refine (hasDot_any q _ (by omega)).mono ?_
            rintro e w' ⟨rfl, hw⟩
            rw [hw, HT.out, HD.out]
            go_wp2_with fail
            go_ret
            exact ⟨rfl, hb1.trans (hb2.mono hb1.size)⟩
    · have hsz1 : (65536 : Int) < (a0.size : Int) := by omega
      go_enter Try.func6, Try.ntmps6
      go_wp2_with (go_at_call 15; refine (bytes15_any _ _ w0).mono ?_; rintro e w' ⟨rfl, hw⟩; rw [hw, decide_eq_true hsz])
      go_ret
      exact ⟨rfl, Below.refl _ _⟩
  · go_enter Try.func6, Try.ntmps6
    go_wp2_with (go_at_call 15; refine (bytes15_any _ _ w0).mono ?_; rintro e w' ⟨rfl, hw⟩; rw [hw, decide_eq_false hsz])
    go_ret
    exact ⟨rfl, Below.refl _ _⟩
end Go.Proofs.Qxb6605328a.fnWithoutPathParametersAgreesWithCleanSegments

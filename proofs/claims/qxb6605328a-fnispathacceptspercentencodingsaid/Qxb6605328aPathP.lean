import Derived.Test.Qxb6605328aBaseP
namespace Go.Proofs.Qxb6605328a
open Go.RowKit

theorem drop_at (s : ByteArray) (k : Nat) (h : k < s.size) : s.data.toList.drop k = s[k] :: s.data.toList.drop (k + 1) := by
  rw [List.drop_eq_getElem_cons (by simpa using h)]; rfl
theorem u8_ne (b : UInt8) (h : ((b.toNat : Int) == 37) = false) : b ≠ 37 := by
  intro e; subst e; revert h; decide
theorem u8_eq (b : UInt8) (h : (b.toNat : Int) = 37) : b = 37 := by
  apply UInt8.toNat_inj.1
  show b.toNat = 37
  omega
theorem p_skip (s : ByteArray) (k : Nat) (h : k < s.size) (hn : ((s[k].toNat : Int) == 37) = false) (hok : okc s[k] = true) : pth (s.data.toList.drop (k + 1)) = pth (s.data.toList.drop k) := by
  rw [drop_at s k h, pth_other _ _ (u8_ne _ hn), hok]; rfl
theorem p_stop (s : ByteArray) (k : Nat) (h : k < s.size) (hn : ((s[k].toNat : Int) == 37) = false) (hok : okc s[k] = false) : pth (s.data.toList.drop k) = false := by
  rw [drop_at s k h, pth_other _ _ (u8_ne _ hn), hok]; rfl
theorem p_pct (s : ByteArray) (k : Nat) (h : k + 2 < s.size) (hp : (s[k].toNat : Int) = 37) :
    pth (s.data.toList.drop k) = (hx (s[k + 1].toNat : Int) && hx (s[k + 2].toNat : Int) && pth (s.data.toList.drop (k + 3))) := by
  rw [drop_at s k (by omega), drop_at s (k + 1) (by omega), drop_at s (k + 2) (by omega), u8_eq _ hp, pth_pct]
theorem p_short (s : ByteArray) (k : Nat) (h : k < s.size) (h2 : s.size ≤ k + 2) (hp : (s[k].toNat : Int) = 37) : pth (s.data.toList.drop k) = false := by
  rw [drop_at s k h, u8_eq _ hp]
  have hl : (s.data.toList.drop (k + 1)).length ≤ 1 := by simp; omega
  match hd : s.data.toList.drop (k + 1), hl with
  | [], _ => exact pth_pct0
  | [a], _ => exact pth_pct1 a
  | a :: b :: t, hl => simp at hl
def punctS : ByteArray := ⟨#[45, 46, 95, 126, 33, 36, 38, 39, 40, 41, 42, 43, 44, 59, 61, 58, 64, 47]⟩
theorem punct_eq (c : UInt8) : decide (0 ≤ firstIdx punctS ((c.toNat : Int)).toNat.toUInt8) = punct.any (· == c) := by
  rw [firstIdx_nonneg]
  simp [punctS, punct]

set_option maxRecDepth 1000000 in
set_option maxHeartbeats 4000000 in
theorem isPath_any (s : ByteArray) (w : World) (hs : s.size ≤ 1000000) :
    Calls Try.prog 25 #[.string s] w fun e w' => e = .returned (.bool (isP s.data.toList)) ∧ ∃ n, w' = w.drewN n := by
  cases hh : hd47 s.data.toList
  · have e : isP s.data.toList = false := by unfold isP; rw [hh]; rfl
    rw [e]
    clear e
    go_enter Try.func25, Try.ntmps25
    go_wp2_with (go_at_call 29; refine (hasPre_any _ _).mono ?_; rintro e w' ⟨rfl, hw⟩; rw [hw, hh])
    go_ret
    exact ⟨rfl, 0, rfl⟩
  · have e : isP s.data.toList = pth s.data.toList := by unfold isP; rw [hh]; rfl
    rw [e]
    clear e
    go_enter Try.func25, Try.ntmps25
    go_wp2_with (go_at_call 29; refine (hasPre_any _ _).mono ?_; rintro e w' ⟨rfl, hw⟩; rw [hw, hh])
    go_loopw [3, 4, 5, 6] (fun i _ _ _ wr => ∃ k n : Nat, k ≤ s.size ∧ i = .int .i64 k ∧ wr = w.drewN n ∧ Hid (pth (s.data.toList.drop k) = pth s.data.toList)) (fun i _ _ _ _ => s.size - (intOf i).toNat)
    case atStart => exact ⟨0, 0, by omega, rfl, rfl, rfl⟩
    case round =>
      obtain ⟨k, n, hk, rfl, rfl, HS⟩ := hrel
      by_cases hlt : k < s.size
      · by_cases h37 : (s[k].toNat : Int) = 37
        · by_cases hsh : s.size ≤ k + 2
          · have HP : Hid _ := p_short s k hlt hsh h37
            go_wp2_with (go_at_call 30; refine (esc_short s k _ hs hlt h37 hsh).mono ?_; rintro e w' ⟨rfl, hw⟩; rw [hw])
            go_ret
            exact ⟨ret_bool (by rw [← HS.out, HP.out]), n, rfl⟩
          · have HP : Hid _ := p_pct s k (by omega) h37
            cases hx1 : (hx (s[k + 1].toNat : Int) && hx (s[k + 2].toNat : Int))
            · have hno : hx (s[k + 1].toNat : Int) = false ∨ hx (s[k + 2].toNat : Int) = false := by
                rcases Bool.and_eq_false_iff.1 hx1 with h | h
                · exact .inl h
                · exact .inr h
              have HP2 : Hid (pth (s.data.toList.drop k) = false) := by
                show _ = _
                rw [HP.out, hx1]; rfl
              have HN : Hid _ := hno
              clear hno hx1
              go_wp2_with (go_at_call 30; refine (esc_no s k _ hs (by omega) h37 HN.out).mono ?_; rintro e w' ⟨rfl, hw⟩; rw [hw])
              go_ret
              exact ⟨ret_bool (by rw [← HS.out, HP2.out]), n, rfl⟩
            · have HN : Hid _ := Bool.and_eq_true_iff.1 hx1
              have HP2 : Hid (pth (s.data.toList.drop (k + 3)) = pth s.data.toList) := by
                show _ = _
                rw [← HS.out, HP.out, hx1]; rfl
              clear hx1
              go_wp2_with (go_at_call 30; refine (esc_yes s k _ hs (by omega) h37 HN.out.1 HN.out.2).mono ?_; rintro e w' ⟨v, m, rfl, hw⟩; rw [hw, World.drewN_drewN])
              go_roundw
              case rel => exact ⟨k + 3, n + m, by omega, by go_num, rfl, HP2⟩
              case measure => simp [intOf]; omega
        · have h37b : ((s[k].toNat : Int) == 37) = false := by rw [beq_eq_false_iff_ne]; exact h37
          have HG : Hid _ := p_skip s k hlt h37b
          have HP : Hid _ := p_stop s k hlt h37b
          have hF := punct_eq s[k]
          have hO : okc s[k] = (an (s[k].toNat : Int) || decide (0 ≤ firstIdx punctS ((s[k].toNat : Int)).toNat.toUInt8)) := by rw [hF]; rfl
          obtain ⟨F, hFF⟩ : ∃ F, F = firstIdx punctS ((s[k].toNat : Int)).toNat.toUInt8 := ⟨_, rfl⟩
          rw [← hFF] at hO
          have HF : Hid (F = firstIdx punctS ((s[k].toNat : Int)).toNat.toUInt8) := hFF
          clear hF hFF h37
          cases ha : an (s[k].toNat : Int)
          · rw [ha, Bool.false_or] at hO
            by_cases hge : 0 ≤ F
            · have HO : Hid (okc s[k] = true) := by show _ = _; rw [hO]; exact decide_eq_true hge
              clear hO
              go_wp2_with (first | (go_at_call 31; refine (an_any _ _).mono ?_; rintro e w' ⟨rfl, hw⟩; rw [hw, ha]) | (go_at_call 27; refine (indexByte_any punctS _ _).mono ?_; rintro e w' ⟨rfl, hw⟩; rw [hw, ← HF.out]))
              go_roundw
              case rel => exact ⟨k + 1, n, by omega, by go_num, rfl, (HG.out HO.out).trans HS.out⟩
              case measure => simp [intOf]; omega
            · have HO : Hid (okc s[k] = false) := by show _ = _; rw [hO]; exact decide_eq_false hge
              clear hO
              go_wp2_with (first | (go_at_call 31; refine (an_any _ _).mono ?_; rintro e w' ⟨rfl, hw⟩; rw [hw, ha]) | (go_at_call 27; refine (indexByte_any punctS _ _).mono ?_; rintro e w' ⟨rfl, hw⟩; rw [hw, ← HF.out]))
              go_ret
              exact ⟨ret_bool (by rw [← HS.out, HP.out HO.out]), n, rfl⟩
          · have HO : Hid (okc s[k] = true) := by show _ = _; rw [hO, ha]; rfl
            clear hO
            go_wp2_with (first | (go_at_call 31; refine (an_any _ _).mono ?_; rintro e w' ⟨rfl, hw⟩; rw [hw, ha]) | (go_at_call 27; refine (indexByte_any punctS _ _).mono ?_; rintro e w' ⟨rfl, hw⟩; rw [hw, ← HF.out]))
            go_roundw
            case rel => exact ⟨k + 1, n, by omega, by go_num, rfl, (HG.out HO.out).trans HS.out⟩
            case measure => simp [intOf]; omega
      · obtain rfl : k = s.size := by omega
        have HE : Hid (pth s.data.toList = true) := by
          show _ = _
          rw [← HS.out, List.drop_of_length_le (by simp)]; rfl
        go_wp2
        go_ret
        exact ⟨ret_bool HE.out.symm, n, rfl⟩

theorem ZZp_any (s : ByteArray) (w : World) (hs : s.size ≤ 1000000) :
    Calls Try.prog 20 #[.string s] w fun e w' => e = .returned (.bool (isP s.data.toList)) ∧ ∃ n, w' = w.drewN n := by
  go_enter Try.func20, Try.ntmps20
  go_wp2_with fail
  refine (isPath_any s _ hs).mono ?_
  rintro e w' ⟨rfl, n, hw⟩
  rw [hw]
  go_wp2_with fail
  go_ret
  exact ⟨rfl, n, rfl⟩

theorem cat_list (a b : ByteArray) : (a ++ b).data.toList = a.data.toList ++ b.data.toList := by simp
theorem cat_size (a b : ByteArray) : (a ++ b).size = a.size + b.size := by simp
theorem tail_list (s : ByteArray) : (s.extract 1 s.size).data.toList = s.data.toList.drop 1 := by
  rw [ByteArray.data_extract, Array.toList_extract]
  simp
  exact List.take_of_length_le (by simp)

set_option maxRecDepth 1000000 in
set_option maxHeartbeats 4000000 in
theorem accepted_any (D l : List UInt8) (hD : ∀ n, n < 16 → hx ((dig D n).toNat : Int) = true) (s : ByteArray) (hl : s.data.toList = 47 :: enc D l) (w : World) (hs : s.size ≤ 900000) :
    Calls Try.prog 9 #[.string s] w fun e w' => e = .returned (.bool true) ∧ ∃ n, w' = w.drewN n := by
  have h0 : isP s.data.toList = true := by rw [hl]; exact enc_path D hD l
  have h1 : isP (s ++ (⟨#[37]⟩ : ByteArray)).data.toList = false := by rw [cat_list, hl]; exact enc_bad D hD l _ bad1
  have h2 : isP (s ++ (⟨#[37, 52]⟩ : ByteArray)).data.toList = false := by rw [cat_list, hl]; exact enc_bad D hD l _ bad2
  have h3 : isP (s ++ (⟨#[37, 103, 48]⟩ : ByteArray)).data.toList = false := by rw [cat_list, hl]; exact enc_bad D hD l _ bad3
  have h4 : isP (s ++ (⟨#[32]⟩ : ByteArray)).data.toList = false := by rw [cat_list, hl]; exact enc_bad D hD l _ bad4
  have h5 : isP ((⟨#[120]⟩ : ByteArray) ++ s).data.toList = false := by rw [cat_list]; exact bad5 _
  have h6 : isP (s.extract 1 s.size).data.toList = false := by rw [tail_list, hl]; exact bad6 D l
  have b1 : (s ++ (⟨#[37]⟩ : ByteArray)).size ≤ 1000000 := by rw [cat_size, show (⟨#[37]⟩ : ByteArray).size = 1 from rfl]; omega
  have b2 : (s ++ (⟨#[37, 52]⟩ : ByteArray)).size ≤ 1000000 := by rw [cat_size, show (⟨#[37, 52]⟩ : ByteArray).size = 2 from rfl]; omega
  have b3 : (s ++ (⟨#[37, 103, 48]⟩ : ByteArray)).size ≤ 1000000 := by rw [cat_size, show (⟨#[37, 103, 48]⟩ : ByteArray).size = 3 from rfl]; omega
  have b4 : (s ++ (⟨#[32]⟩ : ByteArray)).size ≤ 1000000 := by rw [cat_size, show (⟨#[32]⟩ : ByteArray).size = 1 from rfl]; omega
  have b5 : ((⟨#[120]⟩ : ByteArray) ++ s).size ≤ 1000000 := by rw [cat_size, show (⟨#[120]⟩ : ByteArray).size = 1 from rfl]; omega
  have b6 : (s.extract 1 s.size).size ≤ 1000000 := by rw [ByteArray.size_extract]; omega
  have hpos : 1 ≤ s.size := by
    have : s.data.toList.length = s.size := by simp
    rw [hl, List.length_cons] at this
    omega
  have H : Hid _ := And.intro h0 (And.intro h1 (And.intro h2 (And.intro h3 (And.intro h4 (And.intro h5 h6)))))
  have B : Hid _ := And.intro b1 (And.intro b2 (And.intro b3 (And.intro b4 (And.intro b5 b6))))
  clear h0 h1 h2 h3 h4 h5 h6 b1 b2 b3 b4 b5 b6 hl
  go_enter Try.func9, Try.ntmps9
  go_wp2_with fail
  refine (ZZp_any _ _ (by omega)).mono ?_
  rintro e w' ⟨rfl, n0, hw⟩
  rw [hw, H.out.1]
  go_wp2_with fail
  refine (ZZp_any _ _ B.out.1).mono ?_
  rintro e w' ⟨rfl, n1, hw⟩
  rw [hw, H.out.2.1, World.drewN_drewN]
  go_wp2_with fail
  refine (ZZp_any _ _ B.out.2.1).mono ?_
  rintro e w' ⟨rfl, n2, hw⟩
  rw [hw, H.out.2.2.1, World.drewN_drewN]
  go_wp2_with fail
  refine (ZZp_any _ _ B.out.2.2.1).mono ?_
  rintro e w' ⟨rfl, n3, hw⟩
  rw [hw, H.out.2.2.2.1, World.drewN_drewN]
  go_wp2_with fail
  refine (ZZp_any _ _ B.out.2.2.2.1).mono ?_
  rintro e w' ⟨rfl, n4, hw⟩
  rw [hw, H.out.2.2.2.2.1, World.drewN_drewN]
  go_wp2_with fail
  refine (ZZp_any _ _ B.out.2.2.2.2.1).mono ?_
  rintro e w' ⟨rfl, n5, hw⟩
  rw [hw, H.out.2.2.2.2.2.1, World.drewN_drewN]
  go_wp2_with fail
  refine (ZZp_any _ _ B.out.2.2.2.2.2).mono ?_
  rintro e w' ⟨rfl, n6, hw⟩
  rw [hw, H.out.2.2.2.2.2.2, World.drewN_drewN]
  go_wp2_with fail
  go_ret
  exact ⟨rfl, _, rfl⟩
end Go.Proofs.Qxb6605328a

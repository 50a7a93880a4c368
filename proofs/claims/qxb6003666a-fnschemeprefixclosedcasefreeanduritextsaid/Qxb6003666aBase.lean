import Derived.Test.Qxb6003666aProg
import Derived.Test.Qxb6003666aPlain
import Derived.WalkKit
import Derived.WalkSpells
import Derived.Laws.Runes
import Derived.Laws.StandIn
import Derived.Laws.IdiomStrings
import Derived.Lib.Strings
namespace Go.Proofs.Qxb6003666a
open Go.RowKit

theorem ret_bool {a b : Bool} (h : a = b) : Ending.returned (.bool a) = .returned (.bool b) := by rw [h]

theorem run35 (args : Array Value) (w : World) : (callFunc 35 args).run Try.prog w = ((Extern.BytealgIndexByte.indexByte args).run Try.prog w).andThen fun v w' => .ok (.value v) w' :=
  run_callFunc_indexByte Try.func35 (by kernel_rfl) (by kernel_rfl) (by kernel_rfl) (by kernel_rfl) args w

theorem indexByte_any (s : ByteArray) (c : Int) (w : World) :
    Calls Try.prog 32 #[.string s, .int .u8 c] w fun e w' => e = .returned (.int .i64 (firstIdx s c.toNat.toUInt8)) ∧ w' = w := by
  have h35 := run35
  have hi := fun w => run_indexByte_string (P := Try.prog) s c w
  go_enter Try.func32, Try.ntmps32
  go_wp2
  go_ret
  exact ⟨rfl, rfl⟩

theorem bytes_any (s : ByteArray) (w : World) (hs : s.size ≤ maxLen) :
    Calls Try.prog 13 #[.string s] w fun e w' => e = .returned (.bool (decide (s.size ≤ 1048576))) ∧ w' = w := by
  unfold maxLen at hs
  by_cases h : s.size ≤ 1048576
  · have h1 : ¬ (1048576 : Int) < s.size := by omega
    rw [decide_eq_true h]
    go_enter Try.func13, Try.ntmps13
    go_wp2
    go_ret
    exact ⟨rfl, rfl⟩
  · have h1 : (1048576 : Int) < s.size := by omega
    rw [decide_eq_false h]
    go_enter Try.func13, Try.ntmps13
    go_wp2
    go_ret
    exact ⟨rfl, rfl⟩

theorem al_any (b : Int) (w : World) :
    Calls Try.prog 30 #[.int .u8 b] w fun e w' => e = .returned (.bool (al b)) ∧ w' = w := by
  go_enter Try.func30, Try.ntmps30
  go_wp2
  all_goals
    go_ret
    refine ⟨ret_bool ?_, rfl⟩
    unfold al
    rw [Bool.eq_iff_iff]
    simp only [decide_eq_true_eq]
    first | omega | (simp; omega)
theorem dg_any (b : Int) (w : World) :
    Calls Try.prog 31 #[.int .u8 b] w fun e w' => e = .returned (.bool (dg b)) ∧ w' = w := by
  go_enter Try.func31, Try.ntmps31
  go_wp2
  all_goals
    go_ret
    refine ⟨ret_bool ?_, rfl⟩
    unfold dg
    rw [Bool.eq_iff_iff]
    simp only [decide_eq_true_eq]
    first | omega | (simp; omega)

theorem take_snoc (s : ByteArray) (k : Nat) (h : k < s.size) : s.data.toList.take (k + 1) = s.data.toList.take k ++ [s[k]] := by
  rw [List.take_succ_eq_append_getElem (by simpa using h)]; rfl
theorem take_ne (s : ByteArray) (k : Nat) (h : k < s.size) : (s.data.toList.take k).isEmpty = decide (k = 0) := by
  cases k with
  | zero => simp
  | succ n =>
    have hl : s.data.toList.length = s.size := by simp
    cases hh : s.data.toList with
    | nil => rw [hh] at hl; simp at hl; omega
    | cons a t => simp

theorem sch_go (s : ByteArray) (k : Nat) (b : Nat) (h : k < s.size) (hb : s[k].toNat = b) (hk : schT (s.data.toList.take k) = true)
    (c : al (b : Int) = true ∨ (k ≠ 0 ∧ (dg (b : Int) = true ∨ (b : Int) = 43 ∨ (b : Int) = 45 ∨ (b : Int) = 46))) : schT (s.data.toList.take (k + 1)) = true := by
  rw [take_snoc s k h, schT_snoc, hk, take_ne s k h, hb]
  rcases c with c | ⟨c0, c⟩
  · simp [c]
  · have : rs (b : Int) = true := by
      unfold rs
      rcases c with c | c
      · simp [c]
      · simp only [Bool.or_eq_true, decide_eq_true_eq]; right; exact c
    simp [this, c0]
theorem sch_stop (s : ByteArray) (k : Nat) (b : Nat) (h : k < s.size) (hb : s[k].toNat = b)
    (c1 : al (b : Int) = false) (c2 : k = 0 ∨ (dg (b : Int) = false ∧ (b : Int) ≠ 43 ∧ (b : Int) ≠ 45 ∧ (b : Int) ≠ 46)) : sch s.data.toList = false := by
  have : schT (s.data.toList.take (k + 1)) = false := by
    rw [take_snoc s k h, schT_snoc, take_ne s k h, hb, c1]
    rcases c2 with c2 | ⟨d, e1, e2, e3⟩
    · simp [c2]
    · have : rs (b : Int) = false := by
        unfold rs
        rw [c1, d, Bool.false_or, Bool.false_or]
        exact decide_eq_false (by omega)
      simp [this]
  unfold sch
  rw [schT_take _ _ this]; rfl

theorem empty_iff (s : ByteArray) : s.toList.isEmpty = s.data.toList.isEmpty := by rw [Lib.toList_data]

set_option maxRecDepth 1000000 in
set_option maxHeartbeats 2000000 in
theorem isScheme_any (s : ByteArray) (w : World) (hs : s.size ≤ maxLen) :
    Calls Try.prog 25 #[.string s] w fun e w' => e = .returned (.bool (sch s.data.toList)) ∧ w' = w := by
  unfold maxLen at hs
  go_enter Try.func25, Try.ntmps25
  go_wp2
  go_loop [3, 4] (fun i _ => ∃ k : Nat, k ≤ s.size ∧ i = .int .i64 k ∧ Hid (schT (s.data.toList.take k) = true)) (fun i _ => s.size - (intOf i).toNat)
  case atStart => exact ⟨0, by omega, rfl, by simp [Hid, schT]⟩
  case round =>
    obtain ⟨k, hk, rfl, HS⟩ := hrel
    by_cases hlt : k < s.size
    · obtain ⟨b, hb⟩ : ∃ b : Nat, s[k].toNat = b := ⟨_, rfl⟩
      have HG : Hid _ := fun c => sch_go s k b hlt hb HS.out c
      have HP : Hid _ := fun c1 c2 => sch_stop s k b hlt hb c1 c2
      have hbI : (s[k].toNat : Int) = (b : Int) := by rw [hb]
      clear hb
      cases ha : al (b : Int)
      · by_cases h0 : k = 0
        · subst h0
          go_wp2_with (first | (go_at_call 30; refine (al_any _ _).mono ?_; rintro e w' ⟨rfl, hw⟩; rw [hw, ha]) | (go_at_call 31; refine (dg_any _ _).mono ?_; rintro e w' ⟨rfl, hw⟩; rw [hw]))
          go_ret
          exact ⟨ret_bool (HP.out ha (.inl (by trivial))).symm, rfl⟩
        · have h0b : ((k : Int) == 0) = false := by rw [beq_eq_false_iff_ne]; omega
          cases hd : dg (b : Int)
          · by_cases hp : (b : Int) = 43 ∨ (b : Int) = 45 ∨ (b : Int) = 46
            · have HD : Hid ((b : Int) = 43 ∨ (b : Int) = 45 ∨ (b : Int) = 46) := hp
              have g : (((b : Int) != 43) = false ∧ ((b : Int) != 45) = true ∧ ((b : Int) != 46) = true) ∨ (((b : Int) != 43) = true ∧ ((b : Int) != 45) = false ∧ ((b : Int) != 46) = true) ∨ (((b : Int) != 43) = true ∧ ((b : Int) != 45) = true ∧ ((b : Int) != 46) = false) := by
                simp only [bne_iff_ne, bne_eq_false_iff_eq]; omega
              clear hp
              rcases g with ⟨g1, g2, g3⟩ | ⟨g1, g2, g3⟩ | ⟨g1, g2, g3⟩
              all_goals
                go_wp2_with (first | (go_at_call 30; refine (al_any _ _).mono ?_; rintro e w' ⟨rfl, hw⟩; rw [hw, ha]) | (go_at_call 31; refine (dg_any _ _).mono ?_; rintro e w' ⟨rfl, hw⟩; rw [hw, hd]))
                go_round
                case rel => exact ⟨k + 1, by omega, by go_num, HG.out (.inr ⟨h0, .inr HD.out⟩)⟩
                case measure => simp [intOf]; omega
            · have HD : Hid (¬ ((b : Int) = 43 ∨ (b : Int) = 45 ∨ (b : Int) = 46)) := hp
              have g1 : ((b : Int) != 43) = true := by rw [bne_iff_ne]; omega
              have g2 : ((b : Int) != 45) = true := by rw [bne_iff_ne]; omega
              have g3 : ((b : Int) != 46) = true := by rw [bne_iff_ne]; omega
              clear hp
              go_wp2_with (first | (go_at_call 30; refine (al_any _ _).mono ?_; rintro e w' ⟨rfl, hw⟩; rw [hw, ha]) | (go_at_call 31; refine (dg_any _ _).mono ?_; rintro e w' ⟨rfl, hw⟩; rw [hw, hd]))
              go_ret
              exact ⟨ret_bool (HP.out ha (.inr ⟨hd, by have := HD.out; omega⟩)).symm, rfl⟩
          · go_wp2_with (first | (go_at_call 30; refine (al_any _ _).mono ?_; rintro e w' ⟨rfl, hw⟩; rw [hw, ha]) | (go_at_call 31; refine (dg_any _ _).mono ?_; rintro e w' ⟨rfl, hw⟩; rw [hw, hd]))
            go_round
            case rel => exact ⟨k + 1, by omega, by go_num, HG.out (.inr ⟨h0, .inl hd⟩)⟩
            case measure => simp [intOf]; omega
      · go_wp2_with (first | (go_at_call 30; refine (al_any _ _).mono ?_; rintro e w' ⟨rfl, hw⟩; rw [hw, ha]) | (go_at_call 31; refine (dg_any _ _).mono ?_; rintro e w' ⟨rfl, hw⟩; rw [hw]))
        go_round
        case rel => exact ⟨k + 1, by omega, by go_num, HG.out (.inl ha)⟩
        case measure => simp [intOf]; omega
    · obtain rfl : k = s.size := by omega
      have HE : Hid (sch s.data.toList = !s.toList.isEmpty) := by
        show _ = _
        have := HS.out
        rw [List.take_of_length_le (by simp)] at this
        unfold sch
        rw [this, empty_iff, Bool.true_and]
      go_wp2
      go_ret
      exact ⟨ret_bool HE.out.symm, rfl⟩

theorem ZZs_any (s : ByteArray) (w : World) (hs : s.size ≤ maxLen) :
    Calls Try.prog 14 #[.string s] w fun e w' => e = .returned (.bool (sch s.data.toList)) ∧ w' = w := by
  go_enter Try.func14, Try.ntmps14
  go_wp2_with fail
  refine (isScheme_any s _ hs).mono ?_
  rintro e w' ⟨rfl, hw⟩
  rw [hw]
  go_wp2_with fail
  go_ret
  exact ⟨rfl, rfl⟩

def subd : ByteArray := ⟨#[45, 46, 95, 126, 33, 36, 38, 39, 40, 41, 42, 43, 44, 59, 61]⟩
theorem subd_has (b : Nat) (h : (b : Int) = 43 ∨ (b : Int) = 45 ∨ (b : Int) = 46) : 0 ≤ firstIdx subd (b : Int).toNat.toUInt8 := by
  have : b = 43 ∨ b = 45 ∨ b = 46 := by omega
  have h2 := firstIdx_nonneg subd (b : Int).toNat.toUInt8
  rw [Int.toNat_natCast] at *
  refine of_decide_eq_true (h2.trans ?_)
  rcases this with rfl | rfl | rfl <;> decide +kernel

set_option maxRecDepth 1000000 in
set_option maxHeartbeats 2000000 in
/-- Of bytes that may stand in a scheme the text is URI text, whatever 'extra' is. -/
theorem isURI_any (s x : ByteArray) (w : World) (hs : s.size ≤ maxLen) (hall : ∀ c ∈ s.data.toList, rs (c.toNat : Int) = true) :
    Calls Try.prog 24 #[.string s, .string x] w fun e w' => e = .returned (.bool true) ∧ w' = w := by
  unfold maxLen at hs
  have HA : Hid (∀ c ∈ s.data.toList, rs (c.toNat : Int) = true) := hall
  clear hall
  go_enter Try.func24, Try.ntmps24
  go_wp2
  go_loop [5, 6] (fun i _ => ∃ k : Nat, k ≤ s.size ∧ i = .int .i64 k) (fun i _ => s.size - (intOf i).toNat)
  case atStart => exact ⟨0, by omega, rfl⟩
  case round =>
    obtain ⟨k, hk, rfl⟩ := hrel
    by_cases hlt : k < s.size
    · have hr : rs (s[k].toNat : Int) = true := HA.out _ (Array.getElem_mem_toList (xs := s.data) hlt)
      obtain ⟨b, hb⟩ : ∃ b : Nat, s[k].toNat = b := ⟨_, rfl⟩
      rw [hb] at hr
      have hbI : (s[k].toNat : Int) = (b : Int) := by rw [hb]
      clear hb
      have hcase : (al (b : Int) = true ∧ ((b : Int) == 37) = false) ∨ (al (b : Int) = false ∧ dg (b : Int) = true ∧ ((b : Int) == 37) = false) ∨ (al (b : Int) = false ∧ dg (b : Int) = false ∧ ((b : Int) == 37) = false ∧ 0 ≤ firstIdx subd (b : Int).toNat.toUInt8) := by
        cases ha : al (b : Int)
        · cases hd : dg (b : Int)
          · right; right
            unfold rs at hr
            rw [ha, hd, Bool.false_or, Bool.false_or] at hr
            have hr' := of_decide_eq_true hr
            refine ⟨rfl, rfl, ?_, subd_has b hr'⟩
            rw [beq_eq_false_iff_ne]; omega
          · right; left
            refine ⟨rfl, rfl, ?_⟩
            unfold dg at hd
            have := of_decide_eq_true hd
            rw [beq_eq_false_iff_ne]; omega
        · left
          refine ⟨rfl, ?_⟩
          unfold al at ha
          have := of_decide_eq_true ha
          rw [beq_eq_false_iff_ne]; omega
      clear hr
      rcases hcase with ⟨ha, h37⟩ | ⟨ha, hd, h37⟩ | ⟨ha, hd, h37, hi⟩
      · go_wp2_with (first | (go_at_call 30; refine (al_any _ _).mono ?_; rintro e w' ⟨rfl, hw⟩; rw [hw, ha]) | (go_at_call 31; refine (dg_any _ _).mono ?_; rintro e w' ⟨rfl, hw⟩; rw [hw]))
        go_round
        case rel => exact ⟨k + 1, by omega, by go_num⟩
        case measure => simp [intOf]; omega
      · go_wp2_with (first | (go_at_call 30; refine (al_any _ _).mono ?_; rintro e w' ⟨rfl, hw⟩; rw [hw, ha]) | (go_at_call 31; refine (dg_any _ _).mono ?_; rintro e w' ⟨rfl, hw⟩; rw [hw, hd]))
        go_round
        case rel => exact ⟨k + 1, by omega, by go_num⟩
        case measure => simp [intOf]; omega
      · generalize hF : firstIdx subd (b : Int).toNat.toUInt8 = F at *
        have HF : Hid (firstIdx subd (b : Int).toNat.toUInt8 = F) := hF
        clear hF
        go_wp2_with (first | (go_at_call 30; refine (al_any _ _).mono ?_; rintro e w' ⟨rfl, hw⟩; rw [hw, ha]) | (go_at_call 31; refine (dg_any _ _).mono ?_; rintro e w' ⟨rfl, hw⟩; rw [hw, hd]) | (go_at_call 32; refine (indexByte_any subd _ _).mono ?_; rintro e w' ⟨rfl, hw⟩; rw [hw, HF.out]))
        go_round
        case rel => exact ⟨k + 1, by omega, by go_num⟩
        case measure => simp [intOf]; omega
    · go_wp2
      go_ret
      exact ⟨rfl, rfl⟩

theorem ZZu_any (s x : ByteArray) (w : World) (hs : s.size ≤ maxLen) (hall : ∀ c ∈ s.data.toList, rs (c.toNat : Int) = true) :
    Calls Try.prog 8 #[.string s, .string x] w fun e w' => e = .returned (.bool true) ∧ w' = w := by
  go_enter Try.func8, Try.ntmps8
  go_wp2_with fail
  refine (isURI_any s x _ hs hall).mono ?_
  rintro e w' ⟨rfl, hw⟩
  rw [hw]
  go_wp2_with fail
  go_ret
  exact ⟨rfl, rfl⟩
end Go.Proofs.Qxb6003666a

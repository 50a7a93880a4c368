import Derived.Test.Qxb6605328aProg
import Derived.Test.Qxb6605328aPlainP
import Derived.WalkKit
import Derived.WalkSpells
import Derived.Laws.Runes
import Derived.Laws.StandIn
import Derived.Laws.IdiomStrings
import Derived.Lib.Strings
import Derived.Deep.QuietTactic
import Derived.BigQuiet
import Derived.Deep.RegionWith
namespace Go.Proofs.Qxb6605328a
open Go.RowKit

theorem ret_bool {a b : Bool} (h : a = b) : Ending.returned (.bool a) = .returned (.bool b) := by rw [h]

theorem run38 (args : Array Value) (w : World) : (callFunc 38 args).run Try.prog w = ((Extern.BytealgIndexByte.indexByte args).run Try.prog w).andThen fun v w' => .ok (.value v) w' :=
  run_callFunc_indexByte Try.func38 (by kernel_rfl) (by kernel_rfl) (by kernel_rfl) (by kernel_rfl) args w

theorem indexByte_any (s : ByteArray) (c : Int) (w : World) :
    Calls Try.prog 27 #[.string s, .int .u8 c] w fun e w' => e = .returned (.int .i64 (firstIdx s c.toNat.toUInt8)) ∧ w' = w := by
  have h38 := run38
  have hi := fun w => run_indexByte_string (P := Try.prog) s c w
  go_enter Try.func27, Try.ntmps27
  go_wp2
  go_ret
  exact ⟨rfl, rfl⟩

theorem bytes7_any (s : ByteArray) (w : World) (hs : s.size ≤ maxLen) :
    Calls Try.prog 7 #[.string s] w fun e w' => e = .returned (.bool (decide (s.size ≤ 1048576))) ∧ w' = w := by
  unfold maxLen at hs
  by_cases h : s.size ≤ 1048576
  · have h1 : ¬ (1048576 : Int) < s.size := by omega
    rw [decide_eq_true h]
    go_enter Try.func7, Try.ntmps7
    go_wp2
    go_ret
    exact ⟨rfl, rfl⟩
  · have h1 : (1048576 : Int) < s.size := by omega
    rw [decide_eq_false h]
    go_enter Try.func7, Try.ntmps7
    go_wp2
    go_ret
    exact ⟨rfl, rfl⟩

set_option maxHeartbeats 1000000 in
theorem an_any (b : Int) (w : World) :
    Calls Try.prog 31 #[.int .u8 b] w fun e w' => e = .returned (.bool (an b)) ∧ w' = w := by
  go_enter Try.func31, Try.ntmps31
  go_wp2
  all_goals
    go_ret
    refine ⟨ret_bool ?_, rfl⟩
    unfold an
    rw [Bool.eq_iff_iff]
    simp only [decide_eq_true_eq]
    first | omega | (simp; omega)
set_option maxHeartbeats 1000000 in
theorem hx_any (b : Int) (w : World) :
    Calls Try.prog 36 #[.int .u8 b] w fun e w' => e = .returned (.bool (hx b)) ∧ w' = w := by
  go_enter Try.func36, Try.ntmps36
  go_wp2
  all_goals
    go_ret
    refine ⟨ret_bool ?_, rfl⟩
    unfold hx
    rw [Bool.eq_iff_iff]
    simp only [decide_eq_true_eq]
    first | omega | (simp; omega)
theorem unhex_any (b : Int) : ∃ v : Int, ∀ w, Calls Try.prog 37 #[.int .u8 b] w fun e w' => e = .returned (.int .u8 v) ∧ w' = w := by
  by_cases h : b ≤ 57
  · refine ⟨(b - 48) % 256, fun w => ?_⟩
    go_enter Try.func37, Try.ntmps37
    go_wp2
    go_ret
    exact ⟨rfl, rfl⟩
  · refine ⟨(bits BinOp.or IntKind.u8 b 32 - 97 + 10) % 256, fun w => ?_⟩
    go_enter Try.func37, Try.ntmps37
    go_wp2
    go_ret
    exact ⟨rfl, rfl⟩

theorem ext_list (s : ByteArray) (k : Nat) : (s.extract 0 k).data.toList = s.data.toList.take k := by
  rw [ByteArray.data_extract, Array.toList_extract]
  simp
theorem hd_eq (s : ByteArray) : ((s.extract 0 1).toList == [47]) = hd47 s.data.toList := by
  rw [Lib.toList_data, ext_list]
  unfold hd47
  cases s.data.toList with
  | nil => rfl
  | cons a t => simp
theorem hd_no (s : ByteArray) (h : ¬ 1 ≤ s.size) : hd47 s.data.toList = false := by
  have : s.data.toList = [] := by
    have hl : s.data.toList.length = s.size := by simp
    exact List.length_eq_zero_iff.1 (by omega)
  rw [this]; rfl
theorem hasPre_any (s : ByteArray) (w : World) :
    Calls Try.prog 29 #[.string s, .string ⟨#[47]⟩] w fun e w' => e = .returned (.bool (hd47 s.data.toList)) ∧ w' = w := by
  by_cases h : 1 ≤ s.size
  · have h1 : (1 : Int) ≤ s.size := by omega
    rw [← hd_eq s]
    go_enter Try.func29, Try.ntmps29
    go_wp2
    go_ret
    exact ⟨rfl, rfl⟩
  · have h1 : ¬ (1 : Int) ≤ s.size := by omega
    rw [hd_no s h]
    go_enter Try.func29, Try.ntmps29
    go_wp2
    go_ret
    exact ⟨rfl, rfl⟩

set_option maxRecDepth 1000000 in
set_option maxHeartbeats 1000000 in
/-- 'escaped' at a '%' that begins no escape. -/
theorem esc_short (s : ByteArray) (k : Nat) (w : World) (hs : s.size ≤ 1000000) (hk : k < s.size) (hp : (s[k].toNat : Int) = 37) (hno : s.size ≤ k + 2) :
    Calls Try.prog 30 #[.string s, .int .i64 k] w fun e w' => e = .returned (.tuple #[.int .u8 0, .bool false]) ∧ w' = w := by
  have hno' : (s.size : Int) ≤ (k : Int) + 2 := by omega
  go_enter Try.func30, Try.ntmps30
  go_wp2_with fail
  go_ret2
  exact ⟨rfl, rfl⟩
set_option maxRecDepth 1000000 in
set_option maxHeartbeats 1000000 in
theorem esc_no (s : ByteArray) (k : Nat) (w : World) (hs : s.size ≤ 1000000) (hk : k + 2 < s.size) (hp : (s[k].toNat : Int) = 37)
    (hno : hx (s[k + 1].toNat : Int) = false ∨ hx (s[k + 2].toNat : Int) = false) :
    Calls Try.prog 30 #[.string s, .int .i64 k] w fun e w' => e = .returned (.tuple #[.int .u8 0, .bool false]) ∧ w' = w := by
  have hk0 : k < s.size := by omega
  have hk1 : k + 1 < s.size := by omega
  have hk2 : (k : Int) + 2 < (s.size : Int) := by omega
  cases h1 : hx (s[k + 1].toNat : Int)
  · clear hno
    go_enter Try.func30, Try.ntmps30
    go_wp2_with (go_at_call 36; refine (hx_any _ _).mono ?_; rintro e w' ⟨rfl, hw⟩; rw [hw, h1])
    go_ret2
    exact ⟨rfl, rfl⟩
  · have h2 : hx (s[k + 2].toNat : Int) = false := by
      rcases hno with h | h
      · rw [h] at h1; simp at h1
      · exact h
    clear hno
    go_enter Try.func30, Try.ntmps30
    go_wp2_with fail
    refine (hx_any _ _).mono ?_
    rintro e w' ⟨rfl, hw⟩
    rw [hw, h1]
    go_wp2_with fail
    refine (hx_any _ _).mono ?_
    rintro e w' ⟨rfl, hw⟩
    rw [hw, h2]
    go_wp2_with fail
    go_ret2
    exact ⟨rfl, rfl⟩
set_option maxRecDepth 1000000 in
set_option maxHeartbeats 1000000 in
theorem esc_yes (s : ByteArray) (k : Nat) (w : World) (hs : s.size ≤ 1000000) (hk : k + 2 < s.size) (hp : (s[k].toNat : Int) = 37)
    (h1 : hx (s[k + 1].toNat : Int) = true) (h2 : hx (s[k + 2].toNat : Int) = true) :
    Calls Try.prog 30 #[.string s, .int .i64 k] w fun e w' => ∃ v n, e = .returned (.tuple #[.int .u8 v, .bool true]) ∧ w' = w.drewN n := by
  have hk0 : k < s.size := by omega
  have hk1 : k + 1 < s.size := by omega
  have hk2 : (k : Int) + 2 < (s.size : Int) := by omega
  obtain ⟨b1, hb1⟩ : ∃ b : Nat, s[k + 1].toNat = b := ⟨_, rfl⟩
  obtain ⟨b2, hb2⟩ : ∃ b : Nat, s[k + 2].toNat = b := ⟨_, rfl⟩
  rw [hb1] at h1
  rw [hb2] at h2
  have hbI1 : (s[k + 1].toNat : Int) = (b1 : Int) := by rw [hb1]
  have hbI2 : (s[k + 2].toNat : Int) = (b2 : Int) := by rw [hb2]
  clear hb1 hb2
  obtain ⟨v1, hv1⟩ := unhex_any (b1 : Int)
  obtain ⟨v2, hv2⟩ := unhex_any (b2 : Int)
  have HV1 : Hid _ := hv1
  have HV2 : Hid _ := hv2
  clear hv1 hv2
  have hw1 : IntKind.i64.wrap ((k : Int) + 1) = (k : Int) + 1 := by rw [IntKind.wrap_i64]; omega
  have hw2 : IntKind.i64.wrap ((k : Int) + 2) = (k : Int) + 2 := by rw [IntKind.wrap_i64]; omega
  go_enter Try.func30, Try.ntmps30
  go_wp2_with fail
  refine (hx_any _ _).mono ?_
  rintro e w' ⟨rfl, hw⟩
  rw [hw, h1]
  go_wp2_with fail
  refine (hx_any _ _).mono ?_
  rintro e w' ⟨rfl, hw⟩
  rw [hw, h2]
  go_wp2_with fail
  go_quiet ((first | (go_at_call_of 37 (Value.int IntKind.u8 (b1 : Int)); exact Calls.quiet_of_same (HV1.out _)) | (go_at_call_of 37 (Value.int IntKind.u8 (b2 : Int)); exact Calls.quiet_of_same (HV2.out _))))
  go_wp2_with fail
  go_ret2
  exact ⟨_, _, rfl, rfl⟩
end Go.Proofs.Qxb6605328a

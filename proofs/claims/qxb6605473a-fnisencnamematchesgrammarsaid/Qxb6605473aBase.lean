import Derived.Test.Qxb6605473aProg
import Derived.WalkKit
import Derived.WalkSpells
import Derived.WalkMore
import Derived.Laws.Runes
import Derived.Laws.RangeAny
import Derived.Laws.StandIn
import Derived.Lib.OthersKept
import Derived.Deep.QuietTactic
import Derived.BigQuiet
namespace Go.Proofs.Qxb6605473a
open Go.RowKit

theorem run15 (args : Array Value) (w : World) : (callFunc 15 args).run Try.prog w = ((Extern.BytealgIndexByte.indexByte args).run Try.prog w).andThen fun v w' => .ok (.value v) w' :=
  run_callFunc_indexByte Try.func15 (by kernel_rfl) (by kernel_rfl) (by kernel_rfl) (by kernel_rfl) args w

theorem indexByte_any (s : ByteArray) (c : Int) (w : World) :
    Calls Try.prog 10 #[.string s, .int .u8 c] w fun e w' => e = .returned (.int .i64 (firstIdx s c.toNat.toUInt8)) ∧ w' = w := by
  have h15 := run15
  have hi := fun w => run_indexByte_string (P := Try.prog) s c w
  go_enter Try.func10, Try.ntmps10
  go_wp2
  go_ret
  exact ⟨rfl, rfl⟩

def dots : ByteArray := ⟨#[46, 95, 45]⟩
theorem dots_size : dots.size = 3 := rfl
theorem dots_ascii (i : Nat) (h : i < dots.size) : dots[i].toNat < 128 := by
  have h3 : i < 3 := h
  have : i = 0 ∨ i = 1 ∨ i = 2 := by omega
  rcases this with rfl | rfl | rfl <;> (show _ < 128; decide +kernel +revert)
theorem dots_low : ∀ b ∈ dots.data.toList, b.toNat < 128 := by decide
theorem dots_ne (i : Nat) (h : i < dots.size) : ((dots[i].toNat : Int) == 65533) = false := by
  have := dots_ascii i h
  rw [beq_eq_false_iff_ne]; omega

set_option maxRecDepth 1000000 in
set_option maxHeartbeats 1000000 in
theorem indexRune_err (w : World) :
    Calls Try.prog 9 #[.string dots, .int .i32 65533] w fun e w' => e = .returned (.int .i64 (-1)) ∧ Below w.heap.size w w' := by
  go_enter Try.func9, Try.ntmps9
  go_wp2_with fail
  go_loopw [5, 6] (fun _ _ wr => ∃ i : Nat, i ≤ 3 ∧ wr = w.iter dots i) (fun _ _ wr => 3 - wr.iterPos w.heap.size)
  case atStart => exact ⟨0, by omega, rfl⟩
  case round =>
    obtain ⟨i, hi, rfl⟩ := hrel
    by_cases hlt : i < 3
    · have hnx := fun ty => run_next_ascii (P := Try.prog) w dots i ty hlt (dots_ascii i hlt)
      have hne := dots_ne i hlt
      go_wp2
      go_roundw
      case rel => exact ⟨i + 1, by omega, rfl⟩
      case measure => simp; omega
    · obtain rfl : i = 3 := by omega
      have hnx := fun ty => run_next_end (P := Try.prog) w dots 3 ty (by decide)
      go_wp2
      try rw [Exit.noGoto_ret]
      go_ret
      exact ⟨rfl, (Below.refl _ _).alloc (Nat.le_refl _) _⟩

set_option maxRecDepth 1000000 in
set_option maxHeartbeats 1000000 in
theorem indexRune_bad (r : Int) (h0 : 128 ≤ r) (h1 : (r == 65533) = false) (hv : validRune r = false) (w : World) :
    Calls Try.prog 9 #[.string dots, .int .i32 r] w fun e w' => e = .returned (.int .i64 (-1)) ∧ Below w.heap.size w w' := by
  have hv' : (55296 ≤ r ∧ r ≤ 57343) ∨ 1114111 < r := by
    unfold validRune at hv
    have := of_decide_eq_false hv
    omega
  rcases hv' with ⟨a, b⟩ | a
  · go_enter Try.func9, Try.ntmps9
    go_wp2
    try rw [Exit.noGoto_ret]
    go_ret
    exact ⟨rfl, Below.refl _ _⟩
  · go_enter Try.func9, Try.ntmps9
    go_wp2
    try rw [Exit.noGoto_ret]
    go_ret
    exact ⟨rfl, Below.refl _ _⟩

set_option maxRecDepth 1000000 in
set_option maxHeartbeats 1000000 in
theorem indexRune_good (r : Int) (h0 : 128 ≤ r) (h1 : (r == 65533) = false) (hv : validRune r = true) (w : World) :
    Calls Try.prog 9 #[.string dots, .int .i32 r] w fun e w' => e = .returned (.int .i64 (-1)) ∧ Below w.heap.size w w' := by
  have hv' : (0 ≤ r ∧ r < 55296) ∨ (57343 < r ∧ r ≤ 1114111) := by
    unfold validRune at hv
    exact of_decide_eq_true hv
  obtain ⟨e2, e4, el⟩ := encode_facts r (by rw [validRune_eq]; exact hv) h0
  generalize hE : Utf8.encode r = E at *
  have HE : Hid (Utf8.encode r = E) := hE
  have hcv := fun w => run_convert_int_string (P := Try.prog) w 21 9 .i32 r (by kernel_rfl) Try.underlying9
  rw [hE] at hcv
  clear hE hv
  have hlast : (E.size = 4) ∨ (∃ h : 1 < E.size, E.size = 2 ∧ 128 ≤ (E[1]'h).toNat) ∨ (∃ h : 2 < E.size, E.size = 3 ∧ 128 ≤ (E[2]'h).toNat) := by
    have : E.size = 2 ∨ E.size = 3 ∨ E.size = 4 := by omega
    rcases this with h | h | h
    · right; left
      refine ⟨by omega, h, ?_⟩
      have := el (by omega)
      simpa [h] using this
    · right; right
      refine ⟨by omega, h, ?_⟩
      have := el (by omega)
      simpa [h] using this
    · left; exact h
  clear el
  rcases hlast with h4 | ⟨hl, h2, hb⟩ | ⟨hl, h3, hb⟩
  · clear e2 e4
    rcases hv' with ⟨a, b⟩ | ⟨a, b⟩
    all_goals
      go_enter Try.func9, Try.ntmps9
      go_wp2_with (first | (go_at_call 11; go_in) | fail)
      go_step3
      go_wp2_with fail
      refine wp_loop_rounds 1 ?_; rw [rounds_succ]
      go_wp2_with fail
      try rw [Exit.noGoto_ret]
      go_ret
      exact ⟨rfl, Below.refl _ _⟩
  · clear e2 e4
    have hd : (dots[1]'(by decide)).toNat < 128 := dots_ascii 1 (by decide)
    have hne : (((dots[1]'(by decide)).toNat : Int) != ((E[1]'hl).toNat : Int)) = true := by
      rw [bne_iff_ne]; omega
    have hfi : ∀ e, firstIdx (dots.extract 2 e) (((E[1]'hl).toNat : Int)).toNat.toUInt8 = -1 := fun e =>
      firstIdx_ascii dots 2 e _ dots_low (by simp; omega)
    clear hd hb
    have hfx := hfi
    simp only [Int.toNat_natCast, Nat.toUInt8_eq, UInt8.ofNat_toNat] at hfx
    have hds: dots.size = 3 := rfl
    have hwk : IntKind.i64.wrap 2 = 2 := by decide
    rcases hv' with ⟨a, b⟩ | ⟨a, b⟩
    all_goals
      go_enter Try.func9, Try.ntmps9
      go_wp2_with (first | (go_at_call 11; go_in) | fail)
      go_step3
      go_wp2_with fail
      refine wp_loop_rounds 1 ?_; rw [rounds_succ]
      go_wp2_with fail
      go_step3
      go_wp2_with fail
      go_quiet (fail)
      generalize hW : w.drewN nq = w1
      have HW : Hid (w.drewN nq = w1) := hW
      clear hW
      go_wp2_with fail
      go_quiet ((go_at_call 10; exact Calls.quiet_of_same (indexByte_any _ _ _)))
      go_wp2_with fail
      rw [Exit.noGoto_ret]
      go_wp2
      rw [Exit.noGoto_ret]
      go_ret
      exact ⟨rfl, by rw [← HW.out]; exact ⟨rfl, rfl, rfl, Nat.le_refl _, fun _ _ => rfl⟩⟩
  · clear e2 e4
    have hd : (dots[2]'(by decide)).toNat < 128 := dots_ascii 2 (by decide)
    have hne : (((dots[2]'(by decide)).toNat : Int) != ((E[2]'hl).toNat : Int)) = true := by
      rw [bne_iff_ne]; omega
    have hfi : ∀ e, firstIdx (dots.extract 3 e) (((E[2]'hl).toNat : Int)).toNat.toUInt8 = -1 := fun e =>
      firstIdx_ascii dots 3 e _ dots_low (by simp; omega)
    have hfe : firstIdx ByteArray.empty (E[2]'hl) = -1 := firstIdx_none _ _ (by simp)
    clear hd hb
    have hfx := hfi
    simp only [Int.toNat_natCast, Nat.toUInt8_eq, UInt8.ofNat_toNat] at hfx
    have hds: dots.size = 3 := rfl
    have hwk : IntKind.i64.wrap 3 = 3 := by decide
    rcases hv' with ⟨a, b⟩ | ⟨a, b⟩
    all_goals
      go_enter Try.func9, Try.ntmps9
      go_wp2_with (first | (go_at_call 11; go_in) | fail)
      go_step3
      go_wp2_with fail
      refine wp_loop_rounds 1 ?_; rw [rounds_succ]
      go_wp2_with fail
      go_step3
      go_wp2_with fail
      go_quiet (fail)
      generalize hW : w.drewN nq = w1
      have HW : Hid (w.drewN nq = w1) := hW
      clear hW
      go_wp2_with fail
      go_quiet ((go_at_call 10; exact Calls.quiet_of_same (indexByte_any _ _ _)))
      go_wp2_with fail
      rw [Exit.noGoto_ret]
      go_wp2
      rw [Exit.noGoto_ret]
      go_ret
      exact ⟨rfl, by rw [← HW.out]; exact ⟨rfl, rfl, rfl, Nat.le_refl _, fun _ _ => rfl⟩⟩
theorem bytes_any (s : ByteArray) (w : World) (hs : s.size ≤ maxLen) :
    Calls Try.prog 4 #[.string s] w fun e w' => e = .returned (.bool (decide (s.size ≤ 1048576))) ∧ w' = w := by
  unfold maxLen at hs
  by_cases h : s.size ≤ 1048576
  · have h1 : ¬ (1048576 : Int) < s.size := by omega
    rw [decide_eq_true h]
    go_enter Try.func4, Try.ntmps4
    go_wp2
    go_ret
    exact ⟨rfl, rfl⟩
  · have h1 : (1048576 : Int) < s.size := by omega
    rw [decide_eq_false h]
    go_enter Try.func4, Try.ntmps4
    go_wp2
    go_ret
    exact ⟨rfl, rfl⟩

theorem ret_int {k : IntKind} {a b : Int} (h : a = b) : Ending.returned (.int k a) = .returned (.int k b) := by rw [h]
def isL (b : Int) : Bool := decide ((65 ≤ b ∧ b ≤ 90) ∨ (97 ≤ b ∧ b ≤ 122))
def isR (b : Int) : Bool := decide ((48 ≤ b ∧ b ≤ 57) ∨ b = 46 ∨ b = 95 ∨ b = 45)
def step (st b : Int) : Int := if st = 2 then 2 else if isL b = true then 1 else if st = 1 ∧ isR b = true then 1 else 2

set_option maxHeartbeats 1000000 in
theorem step_any (st b : Int) (w : World) :
    Calls Try.prog 6 #[.int .i64 st, .int .u8 b] w fun e w' => e = .returned (.int .i64 (step st b)) ∧ w' = w := by
  go_enter Try.func6, Try.ntmps6
  go_wp2
  all_goals
    go_ret
    refine ⟨ret_int ?_, rfl⟩
    unfold step isL isR
    simp only [decide_eq_true_eq]
    simp only [beq_iff_eq, beq_eq_false_iff_ne] at *
    repeat' split
    all_goals first | rfl | omega | (simp_all; done) | (simp_all; omega) | trace_state
end Go.Proofs.Qxb6605473a

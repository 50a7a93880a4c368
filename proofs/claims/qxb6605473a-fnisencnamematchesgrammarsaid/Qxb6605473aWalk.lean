import Derived.Test.Qxb6605473aBase
import Derived.Lib.Strings
namespace Go.Proofs.Qxb6605473a
open Go.RowKit

def isDot (r : Int) : Bool := decide (r = 46 ∨ r = 95 ∨ r = 45)
theorem isDot_firstIdx (r : Int) (h0 : 0 ≤ r) (h1 : r < 256) : decide (0 ≤ firstIdx dots r.toNat.toUInt8) = isDot r := by
  rw [firstIdx_nonneg]
  obtain ⟨n, rfl⟩ := Int.eq_ofNat_of_zero_le h0
  have hn : n < 256 := by omega
  clear h0 h1
  rw [Int.toNat_natCast]
  have : ∀ n : Fin 256, (dots.data.toList.any (· == n.val.toUInt8)) = decide (n.val = 46 ∨ n.val = 95 ∨ n.val = 45) := by decide +kernel
  have h := this ⟨n, hn⟩
  simp only at h
  rw [h]
  unfold isDot
  rw [decide_eq_decide]
  omega

set_option maxRecDepth 1000000 in
set_option maxHeartbeats 1000000 in
theorem contains_low (r : Int) (h0 : 0 ≤ r) (h1 : r < 128) (w : World) :
    Calls Try.prog 8 #[.string dots, .int .i32 r] w fun e w' => e = .returned (.bool (isDot r)) ∧ w' = w := by
  have hd := isDot_firstIdx r h0 (by omega)
  rw [← hd]
  clear hd
  go_enter Try.func8, Try.ntmps8
  go_wp2_with (first | (go_at_call 10; refine (indexByte_any _ _ _).mono ?_; rintro e w' ⟨rfl, rfl⟩) | go_in)
  go_ret
  exact ⟨rfl, rfl⟩

theorem indexRune_high (r : Int) (h0 : 128 ≤ r) (w : World) :
    Calls Try.prog 9 #[.string dots, .int .i32 r] w fun e w' => e = .returned (.int .i64 (-1)) ∧ Below w.heap.size w w' := by
  by_cases h1 : r = 65533
  · subst h1; exact indexRune_err w
  · cases hv : validRune r
    · exact indexRune_bad r h0 (by simpa using h1) hv w
    · exact indexRune_good r h0 (by simpa using h1) hv w

theorem contains_high (r : Int) (h0 : 128 ≤ r) (w : World) :
    Calls Try.prog 8 #[.string dots, .int .i32 r] w fun e w' => e = .returned (.bool false) ∧ Below w.heap.size w w' := by
  go_enter Try.func8, Try.ntmps8
  go_wp2_with fail
  refine (indexRune_high r h0 _).mono ?_
  rintro e w' ⟨rfl, hb⟩
  go_wp2_with fail
  go_ret
  exact ⟨rfl, hb⟩

def St (s : ByteArray) (k : Nat) : Int := (s.data.toList.take k).foldl (fun st b => step st (b.toNat : Int)) 0
theorem St_zero (s : ByteArray) : St s 0 = 0 := by simp [St]
theorem St_succ (s : ByteArray) (k : Nat) (h : k < s.size) : St s (k + 1) = step (St s k) (s[k].toNat : Int) := by
  unfold St
  have : s.data.toList.take (k + 1) = s.data.toList.take k ++ [s[k]] := by
    rw [List.take_succ_eq_append_getElem (by simpa using h)]; rfl
  rw [this, List.foldl_append]
  rfl
theorem step_dead (b : Int) : step 2 b = 2 := by simp [step]
theorem fold_dead (l : List UInt8) : l.foldl (fun st b => step st (b.toNat : Int)) 2 = 2 := by
  induction l with
  | nil => rfl
  | cons a t ih => simpa [step_dead] using ih
theorem St_dead (s : ByteArray) (k : Nat) (h : St s k = 2) : St s s.size = 2 := by
  have hl : s.data.toList.length = s.size := by simp
  unfold St at *
  rw [List.take_of_length_le (l := s.data.toList) (by omega)]
  conv => lhs; rw [← List.take_append_drop k s.data.toList]
  rw [List.foldl_append, h]
  exact fold_dead _

theorem St_go (s : ByteArray) (k : Nat) (h : k < s.size) (hk : St s k = if k = 0 then 0 else 1)
    (c : (65 ≤ (s[k].toNat : Int) ∧ (s[k].toNat : Int) ≤ 90) ∨ (97 ≤ (s[k].toNat : Int) ∧ (s[k].toNat : Int) ≤ 122) ∨ (0 < k ∧ ((48 ≤ (s[k].toNat : Int) ∧ (s[k].toNat : Int) ≤ 57) ∨ (s[k].toNat : Int) = 46 ∨ (s[k].toNat : Int) = 95 ∨ (s[k].toNat : Int) = 45))) :
    St s (k + 1) = 1 := by
  rw [St_succ s k h, hk]
  generalize (s[k].toNat : Int) = b at *
  unfold step isL isR
  simp only [decide_eq_true_eq]
  by_cases h0 : k = 0
  · rw [if_pos h0]
    repeat' split
    all_goals first | rfl | omega
  · rw [if_neg h0]
    repeat' split
    all_goals first | rfl | omega
theorem St_stop (s : ByteArray) (k : Nat) (h : k < s.size) (hk : St s k = if k = 0 then 0 else 1)
    (c : ¬ ((65 ≤ (s[k].toNat : Int) ∧ (s[k].toNat : Int) ≤ 90) ∨ (97 ≤ (s[k].toNat : Int) ∧ (s[k].toNat : Int) ≤ 122) ∨ (0 < k ∧ ((48 ≤ (s[k].toNat : Int) ∧ (s[k].toNat : Int) ≤ 57) ∨ (s[k].toNat : Int) = 46 ∨ (s[k].toNat : Int) = 95 ∨ (s[k].toNat : Int) = 45)))) :
    (St s s.size == 1) = false := by
  have : St s (k + 1) = 2 := by
    rw [St_succ s k h, hk]
    generalize (s[k].toNat : Int) = b at *
    unfold step isL isR
    simp only [decide_eq_true_eq]
    by_cases h0 : k = 0
    · rw [if_pos h0]
      repeat' split
      all_goals first | rfl | omega
    · rw [if_neg h0]
      repeat' split
      all_goals first | rfl | omega
  rw [St_dead s (k + 1) this]
  rfl

theorem iterPos_of {w : World} {k : Nat} {s : ByteArray} {p : Nat} (h : w.heap[k]? = some (.stringIter s p)) : w.iterPos k = p := by simp [World.iterPos, h]

theorem ret_bool {a b : Bool} (h : a = b) : Ending.returned (.bool a) = .returned (.bool b) := by rw [h]

set_option maxRecDepth 1000000 in
set_option maxHeartbeats 2000000 in
theorem isEncName_any (s : ByteArray) (w : World) (hs : s.size ≤ maxLen) :
    Calls Try.prog 7 #[.string s] w fun e w' => e = .returned (.bool (St s s.size == 1)) ∧ Below w.heap.size w w' := by
  unfold maxLen at hs
  go_enter Try.func7, Try.ntmps7
  go_wp2
  go_loopw [3, 4] (fun _ _ wr => ∃ k : Nat, k ≤ s.size ∧ wr.heap[w.heap.size]? = some (.stringIter s k) ∧ Below w.heap.size w wr ∧ Hid (St s k = if k = 0 then 0 else 1)) (fun _ _ wr => s.size - wr.iterPos w.heap.size)
  case atStart => exact ⟨0, by omega, World.iter_heap w s 0, (Below.refl _ _).alloc (Nat.le_refl _) _, St_zero s⟩
  case round =>
    obtain ⟨k, hk, hit, hbw, HS⟩ := hrel
    have hpos0 := iterPos_of hit
    by_cases hlt : k < s.size
    · have hnx : ∀ ty, (Instr.next (.pointer (some ⟨w.heap.size, 0, none⟩)) true ty).run Try.prog wr = _ := fun ty => Lib.run_next_any_at wr w.heap.size s k ty hit hlt
      have hit2 := Lib.iterAt_heap wr w.heap.size s k (k + (Utf8.decode s k).2) hit
      have hbw2 := Lib.below_iterAt hbw (k := w.heap.size) (Nat.le_refl _) s (k + (Utf8.decode s k).2)
      obtain ⟨W1, hW1⟩ : ∃ W1, W1 = wr.iterAt w.heap.size s (k + (Utf8.decode s k).2) := ⟨_, rfl⟩
      rw [← hW1] at hnx hit2 hbw2
      clear hW1
      by_cases hasc : (s[k].toNat) < 128
      · rw [decode_ascii s k hlt hasc] at hnx hit2
        simp only at hnx hit2
        have HG : Hid _ := St_go s k hlt HS.out
        have HP : Hid _ := St_stop s k hlt HS.out
        generalize hb : s[k].toNat = b at *
        clear hb
        by_cases hdot : (b : Int) = 46 ∨ (b : Int) = 95 ∨ (b : Int) = 45
        · have HD : Hid ((b : Int) = 46 ∨ (b : Int) = 95 ∨ (b : Int) = 45) := hdot
          have hdb : isDot (b : Int) = true := by unfold isDot; exact decide_eq_true hdot
          clear hdot
          go_wp2_with (go_at_call 8; refine (contains_low _ (by omega) (by omega) _).mono ?_; rintro e w2 ⟨rfl, hw2⟩; rw [hdb]; subst w2)
          all_goals have hdot := HD.out
          all_goals first
            | (refine ⟨⟨k + 1, by omega, hit2, hbw2, ?_⟩, by rw [iterPos_of hit2, hpos0]; omega⟩
               show _ = _
               rw [if_neg (by omega)]
               exact HG.out (by omega))
            | (go_ret
               exact ⟨ret_bool (HP.out (by omega)).symm, hbw2⟩)
        · have HD : Hid (¬ ((b : Int) = 46 ∨ (b : Int) = 95 ∨ (b : Int) = 45)) := hdot
          have hdb : isDot (b : Int) = false := by unfold isDot; exact decide_eq_false hdot
          clear hdot
          go_wp2_with (go_at_call 8; refine (contains_low _ (by omega) (by omega) _).mono ?_; rintro e w2 ⟨rfl, hw2⟩; rw [hdb]; subst w2)
          all_goals have hdot := HD.out
          all_goals first
            | (refine ⟨⟨k + 1, by omega, hit2, hbw2, ?_⟩, by rw [iterPos_of hit2, hpos0]; omega⟩
               show _ = _
               rw [if_neg (by omega)]
               exact HG.out (by omega))
            | (go_ret
               exact ⟨ret_bool (HP.out (by omega)).symm, hbw2⟩)
      · have hd := (decode_high s k hlt (by omega)).1
        have hd2 : 128 ≤ ((Utf8.decode s k).1 : Int) := by omega
        have HP : Hid _ := St_stop s k hlt HS.out (by omega)
        generalize (Utf8.decode s k).1 = D at *
        clear hd hasc
        go_wp2_with (go_at_call 8; refine (contains_high _ (by omega) _).mono ?_; rintro e w2 ⟨rfl, hw2⟩)
        all_goals
          go_ret
          first
            | exact ⟨ret_bool HP.out.symm, hbw2⟩
            | exact ⟨ret_bool HP.out.symm, hbw2.trans (hw2.mono hbw2.size)⟩
    · obtain rfl : k = s.size := by omega
      have hnx : ∀ ty, (Instr.next (.pointer (some ⟨w.heap.size, 0, none⟩)) true ty).run Try.prog wr = _ := fun ty => Lib.run_next_end_at wr w.heap.size s s.size ty hit hlt
      have HE : Hid ((St s s.size == 1) = !s.toList.isEmpty) := by
        show _ = _
        rw [HS.out]
        by_cases h0 : s.size = 0
        · rw [if_pos h0]
          have : s.toList.isEmpty = true := by
            rw [Lib.toList_data]
            cases hh : s.data.toList with
            | nil => rfl
            | cons _ _ => rw [Lib.size_eq, hh] at h0; simp at h0
          rw [this]; rfl
        · rw [if_neg h0]
          have : s.toList.isEmpty = false := by
            rw [Lib.toList_data]
            cases hh : s.data.toList with
            | nil => exact absurd (by rw [Lib.size_eq, hh]; rfl) h0
            | cons _ _ => rfl
          rw [this]; rfl
      go_wp2
      go_ret
      exact ⟨ret_bool HE.out.symm, hbw⟩

theorem ZZ_any (s : ByteArray) (w : World) (hs : s.size ≤ maxLen) :
    Calls Try.prog 5 #[.string s] w fun e w' => e = .returned (.bool (St s s.size == 1)) ∧ Below w.heap.size w w' := by
  go_enter Try.func5, Try.ntmps5
  go_wp2_with fail
  refine (isEncName_any s _ hs).mono ?_
  rintro e w' ⟨rfl, hb⟩
  go_wp2_with fail
  go_ret
  exact ⟨rfl, hb⟩

set_option maxRecDepth 1000000 in
set_option maxHeartbeats 1000000 in
theorem walk (a0 : ByteArray) (w0 : a0.size ≤ maxLen) (w : World) :
    Calls Try.prog 3 #[.string a0] w fun e w' => e = .returned (.bool true) ∧ Below w.heap.size w w' := by
  by_cases hsz : a0.size ≤ 1048576
  · have hsz1 : ¬ (1048576 : Int) < (a0.size : Int) := by omega
    go_enter Try.func3, Try.ntmps3
    go_wp2_with (go_at_call 4; refine (bytes_any _ _ w0).mono ?_; rintro e w' ⟨rfl, hw⟩; rw [hw, decide_eq_true hsz])
    go_wp2_with fail
    refine (ZZ_any a0 _ w0).mono ?_
    rintro e w1 ⟨rfl, hb⟩
    go_wp2_with fail
    go_loop [4, 5] (fun st i => ∃ k : Nat, k ≤ a0.size ∧ i = .int .i64 k ∧ st = .int .i64 (St a0 k)) (fun _ i => a0.size - (intOf i).toNat)
    case atStart => exact ⟨0, by omega, rfl, by rw [St_zero]⟩
    case round =>
      obtain ⟨k, hk, rfl, rfl⟩ := hrel
      by_cases hlt : k < a0.size
      · have HS : Hid _ := St_succ a0 k hlt
        go_wp2_with (go_at_call 6; refine (step_any _ _ _).mono ?_; rintro e w2 ⟨rfl, hw⟩; rw [hw])
        go_round
        case rel => exact ⟨k + 1, by omega, by go_num, by rw [HS.out]⟩
        case measure => simp [intOf]; omega
      · obtain rfl : k = a0.size := by omega
        go_wp2
        go_ret
        exact ⟨ret_bool (by simp), hb⟩
  · have hsz1 : (1048576 : Int) < (a0.size : Int) := by omega
    go_enter Try.func3, Try.ntmps3
    go_wp2_with (go_at_call 4; refine (bytes_any _ _ w0).mono ?_; rintro e w' ⟨rfl, hw⟩; rw [hw, decide_eq_false hsz])
    go_ret
    exact ⟨rfl, Below.refl _ _⟩
end Go.Proofs.Qxb6605473a

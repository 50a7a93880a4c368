import Derived.Test.Qxb6605328aBaseP
import Derived.Test.Qxb6605328aPlainW
import Derived.Lib.Bytealg
namespace Go.Proofs.Qxb6605328a
open Go.RowKit

theorem idx_facts (l : List UInt8) (c : UInt8) : (Lib.indexByte l c = -1 ∧ fnd c l = false) ∨ ∃ i : Nat, Lib.indexByte l c = (i : Int) ∧ i < l.length ∧ fnd c l = true ∧ bef c l = l.take i ∧ aft c l = l.drop (i + 1) := by
  induction l with
  | nil => exact .inl ⟨rfl, rfl⟩
  | cons b l ih =>
    rw [fnd_cons, bef_cons, aft_cons]
    simp only [Lib.indexByte]
    by_cases h : b = c
    · right
      subst h
      exact ⟨0, by simp, by simp, by simp, by simp, by simp⟩
    · have hb : (b == c) = false := by simp [h]
      rw [hb, if_neg (by simp), Bool.false_or, if_neg h, if_neg h]
      rcases ih with ⟨h1, h2⟩ | ⟨i, h1, h2, h3, h4, h5⟩
      · left
        rw [h1]
        exact ⟨by simp, h2⟩
      · right
        rw [h1]
        have hne : ((i : Int) == -1) = false := by rw [beq_eq_false_iff_ne]; omega
        refine ⟨i + 1, ?_, by simp; omega, h3, by rw [h4]; rfl, by rw [h5]; rfl⟩
        rw [hne, if_neg (by simp)]; rfl

theorem lite_any (s : ByteArray) (c : Int) (w : World) :
    Calls Try.prog 33 #[.string s, .int .u8 c] w fun e w' => e = .returned (.int .i64 (firstIdx s c.toNat.toUInt8)) ∧ w' = w := by
  have h38 := run38
  have hi := fun w => run_indexByte_string (P := Try.prog) s c w
  go_enter Try.func33, Try.ntmps33
  go_wp2
  go_ret
  exact ⟨rfl, rfl⟩

theorem ret_int {k : IntKind} {a b : Int} (h : a = b) : Ending.returned (.int k a) = .returned (.int k b) := by rw [h]

set_option maxRecDepth 1000000 in
set_option maxHeartbeats 1000000 in
theorem index_any (s : ByteArray) (c : UInt8) (w : World) :
    Calls Try.prog 34 #[.string s, .string ⟨#[c]⟩] w fun e w' => e = .returned (.int .i64 (Lib.indexByte s.data.toList c)) ∧ w' = w := by
  by_cases h : s.data.toList = [c]
  · have e0 : Lib.indexByte s.data.toList c = 0 := by rw [h]; simp [Lib.indexByte]
    have hs : s.toList = [c] := by rw [Lib.toList_data]; exact h
    have hq : ((⟨#[c]⟩ : ByteArray).toList == s.toList) = true := by rw [hs]; simp [Lib.toList_data]
    rw [e0]
    go_enter Try.func34, Try.ntmps34
    go_wp2_with fail
    go_ret
    exact ⟨rfl, rfl⟩
  · have hne : ¬ (s.toList = [c]) := by rw [Lib.toList_data]; exact h
    have hq : ((⟨#[c]⟩ : ByteArray).toList == s.toList) = false := by
      rw [beq_eq_false_iff_ne]
      intro e
      apply hne
      rw [← e, Lib.toList_data]
    have hq2 : ([c] == s.toList) = false := by
      rw [beq_eq_false_iff_ne]
      exact fun e => hne e.symm
    have HF : Hid (firstIdx s c = Lib.indexByte s.data.toList c) := Lib.firstIdx_eq s c
    have hc : ((c.toNat : Int)).toNat.toUInt8 = c := by simp
    clear h hne
    go_enter Try.func34, Try.ntmps34
    go_wp2_with fail
    refine (lite_any s (c.toNat : Int) _).mono ?_
    rintro e w' ⟨rfl, hw⟩
    rw [hw, hc, HF.out]
    go_wp2_with fail
    go_ret
    exact ⟨rfl, rfl⟩

theorem ext_take (s : ByteArray) (i : Nat) : (s.extract 0 i).data.toList = s.data.toList.take i := ext_list s i
theorem ext_drop (s : ByteArray) (i : Nat) : (s.extract i s.size).data.toList = s.data.toList.drop i := by
  rw [ByteArray.data_extract, Array.toList_extract]
  simp
  exact List.take_of_length_le (by simp)

/-- What 'strings.Cut' at one byte leaves. -/
def CutPost (s : ByteArray) (c : UInt8) (w : World) (e : Ending) (w' : World) : Prop :=
  ∃ (B A : ByteArray) (f : Bool) (n : Nat), e = .returned (.tuple #[.string B, .string A, .bool f]) ∧ f = fnd c s.data.toList ∧ B.data.toList = bef c s.data.toList ∧ A.data.toList = (if fnd c s.data.toList = true then aft c s.data.toList else []) ∧ w' = w.drewN n

set_option maxRecDepth 1000000 in
set_option maxHeartbeats 1000000 in
theorem cut28 (s : ByteArray) (c : UInt8) (w : World) (hs : s.size ≤ 1000000) :
    Calls Try.prog 28 #[.string s, .string ⟨#[c]⟩] w fun e w' => CutPost s c w e w' := by
  have hl : s.data.toList.length = s.size := by simp
  rcases idx_facts s.data.toList c with ⟨h1, h2⟩ | ⟨i, h1, h2, h3, h4, h5⟩
  · have H : Hid _ := And.intro h2 (bef_same c s.data.toList h2)
    clear h2
    go_enter Try.func28, Try.ntmps28
    go_wp2_with (go_at_call 34; refine (index_any _ _ _).mono ?_; rintro e w' ⟨rfl, hw⟩; rw [hw, h1])
    go_ret3
    exact ⟨s, ⟨#[]⟩, false, 0, rfl, H.out.1.symm, H.out.2.symm, by rw [H.out.1]; rfl, rfl⟩
  · have hi : i < s.size := by omega
    have hw1 : IntKind.i64.wrap ((i : Int) + 1) = (i : Int) + 1 := by rw [IntKind.wrap_i64]; omega
    have H : Hid _ := And.intro h3 (And.intro h4 h5)
    clear h2 h3 h4 h5 hl
    go_enter Try.func28, Try.ntmps28
    go_wp2_with (go_at_call 34; refine (index_any _ _ _).mono ?_; rintro e w' ⟨rfl, hw⟩; rw [hw, h1])
    go_quiet (fail)
    go_wp2_with fail
    go_ret3
    refine ⟨s.extract 0 i, s.extract (i + 1) s.size, true, nq, rfl, H.out.1.symm, ?_, ?_, rfl⟩
    · rw [H.out.2.1]; exact ext_take _ _
    · rw [if_pos H.out.1, H.out.2.2]; exact ext_drop _ _

/-- 'strings.Cut' at a separator of one byte. -/
theorem cut_any (s : ByteArray) (c : UInt8) (w : World) (hs : s.size ≤ 1000000) :
    Calls Try.prog 23 #[.string s, .string ⟨#[c]⟩] w fun e w' => CutPost s c w e w' := by
  go_enter Try.func23, Try.ntmps23
  go_wp2_with fail
  refine (cut28 s c _ hs).mono ?_
  rintro e w' ⟨B, A, f, n, rfl, hf, hB, hA, hw⟩
  have H : Hid _ := And.intro hf (And.intro hB hA)
  clear hf hB hA
  rw [hw]
  go_wp2_with fail
  go_ret3
  exact ⟨B, A, f, n, rfl, H.out.1, H.out.2.1, H.out.2.2, rfl⟩
end Go.Proofs.Qxb6605328a

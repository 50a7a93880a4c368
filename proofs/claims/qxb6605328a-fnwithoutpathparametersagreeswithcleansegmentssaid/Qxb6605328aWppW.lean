import Derived.Test.Qxb6605328aOwnW
namespace Go.Proofs.Qxb6605328a
open Go.RowKit
namespace W

def outV : Option (List UInt8) → Value
  | none => .tuple #[.string ⟨#[]⟩, .bool false]
  | some L => .tuple #[.string ⟨L.toArray⟩, .bool true]
theorem wp_one (s acc : List UInt8) : wp [s] acc = if dotS (bef 59 s) = true then none else some (acc ++ piece (bef 59 s) ++ (if bef 59 s = [] then [47] else [])) := rfl
theorem wp_cons (s : List UInt8) (L : List (List UInt8)) (acc : List UInt8) (hL : L ≠ []) : wp (s :: L) acc = if dotS (bef 59 s) = true then none else wp L (acc ++ piece (bef 59 s)) := by
  cases L with
  | nil => exact absurd rfl hL
  | cons t r => rfl

theorem without_plain (p : ByteArray) (w : World) (hno : fnd 59 p.data.toList = false) :
    Calls Try.prog 16 #[.string p] w fun e w' => e = .returned (.tuple #[.string p, .bool true]) ∧ w' = w := by
  go_enter Try.func16, Try.ntmps16
  go_wp2_with (go_at_call 22; refine (hasPar_any _ _).mono ?_; rintro e w' ⟨rfl, hw⟩; rw [hw, hno])
  go_ret2
  exact ⟨rfl, rfl⟩

set_option maxRecDepth 1000000 in
set_option maxHeartbeats 4000000 in
theorem without_any (p : ByteArray) (w : World) (hs : p.size ≤ 1000000) (h1 : 1 ≤ p.size) (hyes : fnd 59 p.data.toList = true) (O : Option (List UInt8)) (hO : wp (segs p.data.toList.tail) [] = O) :
    Calls Try.prog 16 #[.string p] w fun e w' => e = .returned (outV O) ∧ Below w.heap.size w w' := by
  obtain ⟨i0, hi, hz0, hz1, hz2⟩ := info_parts info5
  have HO : Hid _ := hO
  clear hO
  have hx1 : (p.extract 1 p.size).size + 1 = p.size := by rw [ByteArray.size_extract]; omega
  have HX : Hid ((p.extract 1 p.size).data.toList = p.data.toList.tail) := by
    show _ = _
    rw [ext_drop, List.drop_one]
  go_enter Try.func16, Try.ntmps16
  go_wp2_with (first | (go_at_call 22; refine (hasPar_any _ _).mono ?_; rintro e w' ⟨rfl, hw⟩; rw [hw, hyes]) | (at_make; refine wpList_make_own _ rfl _ _ 28 rfl w.heap.size 5 i0 (.int .u8 0) 1 Try.underlying28 hi hz0 hz1 _ _ _ p.size rfl rfl (by omega) (by rw [hz2]; omega) (by unfold maxLen; omega) (Nat.le_refl _) ?_; intro w1 hown hgrow; refine Hid.out ?_))
  unfold Hid
  have hb1 : Below w.heap.size w w1 := (Below.refl _ _).grown hgrow (Nat.le_refl _) (by simp)
  clear hgrow
  go_wp2_with fail
  go_loopw [4, 5, 6, 7, 8, 9, 10, 11] (fun v r _ _ _ _ _ _ wr => ∃ (R : ByteArray) (acc : List UInt8) (n : Nat), r = .string R ∧ v = .slice (some ⟨w.heap.size, 0, none⟩) n p.size ∧ n + R.size + 1 ≤ p.size ∧ Hid (n = acc.length ∧ wp (segs R.data.toList) acc = O) ∧ wr.ownsRow w.heap.size 5 1 (.slice (some ⟨w.heap.size, 0, none⟩) n p.size) n (acc.map bv) ∧ Below w.heap.size w wr) (fun _ r _ _ _ _ _ _ _ => strSize r)
  case atStart => exact ⟨_, [], 0, rfl, rfl, by omega, ⟨rfl, by rw [HX.out]; exact HO.out⟩, hown, hb1⟩
  case round =>
    clear hown hb1 hx1
    obtain ⟨R, acc, n, rfl, rfl, hn, HN, hown, hbw⟩ := hrel
    go_wp2_with fail
    refine (cut_any R 47 _ (by omega)).mono ?_
    rintro e w2 ⟨B, A, f, m, rfl, hf, hB, hA, hw⟩
    have hown2 : w2.ownsRow w.heap.size 5 1 (.slice (some ⟨w.heap.size, 0, none⟩) n p.size) n (acc.map bv) := by rw [hw]; exact hown
    have hb2 : Below w.heap.size w w2 := by rw [hw]; exact below_draws hbw m
    clear hw hown hbw
    have hBR : B.size ≤ R.size := by
      rw [← size_list B, hB, ← size_list R]
      exact bef_len _ _
    have H1 : Hid _ := And.intro hf (And.intro hB hA)
    clear hf hB hA
    go_wp2_with fail
    refine (cut_any B 59 _ (by omega)).mono ?_
    rintro e w3 ⟨N, A2, f2, m2, rfl, hf2, hN, hA2, hw⟩
    have hown3 : w3.ownsRow w.heap.size 5 1 (.slice (some ⟨w.heap.size, 0, none⟩) n p.size) n (acc.map bv) := by rw [hw]; exact hown2
    have hb3 : Below w.heap.size w w3 := by rw [hw]; exact below_draws hb2 m2
    clear hw hown2 hb2 hf2 hA2
    have hNB : N.size ≤ B.size := by
      rw [← size_list N, hN, ← size_list B]
      exact bef_len _ _
    have hN47 : fnd 47 N.data.toList = false := by
      rw [hN]
      apply fnd_sub
      rw [H1.out.2.1]
      exact fnd_bef 47 _
    have H2 : Hid _ := hN
    clear hN
    go_wp2_with fail
    refine (isDot_any N _ (by omega) hN47).mono ?_
    rintro e w4 ⟨rfl, m3, hw⟩
    have hown4 : w4.ownsRow w.heap.size 5 1 (.slice (some ⟨w.heap.size, 0, none⟩) n p.size) n (acc.map bv) := by rw [hw]; exact hown3
    have hb4 : Below w.heap.size w w4 := by rw [hw]; exact below_draws hb3 m3
    clear hw hown3 hb3 hN47
    cases hd : dotS N.data.toList
    · have HN1 : Hid _ := HN.out.1
      have hf := H1.out.1
      cases f
      · -- the last segment
        have hLast : O = some (acc ++ piece N.data.toList ++ (if N.data.toList = [] then [47] else [])) := by
          rw [← HN.out.2, segs_one _ hf.symm, ← bef_same 47 _ hf.symm, ← H1.out.2.1, wp_one, ← H2.out, if_neg (by rw [hd]; simp)]
        by_cases hE : N.data.toList = []
        · have hEb : N.toList.isEmpty = true := by rw [empty_iff, hE]; rfl
          have HL : Hid (O = some (acc ++ [47])) := by
            show _ = _
            rw [hLast, hE, piece_nil]
            simp
          clear hf hLast hE hd HN H1 H2
          go_wp2_with (at_builtin; refine wpList_append_fits _ rfl _ _ 28 rfl w.heap.size 5 i0 1 Try.underlying28 hi hz1 w.heap.size n p.size _ rfl (hown4.alloc _) ⟨w4.heap.size, 0, none⟩ 1 1 [bv 47] rfl rfl (cell_one _ _ _) (by simp [Value.oneCell', bv]) (by omega) ?_; intro w5 hown5 hgrow5; refine Hid.out ?_)
          unfold Hid
          have hb5 : Below w.heap.size w w5 := (hb4.alloc hb4.size _).grown hgrow5 (by have := hb4.size; simp; omega) (by simp)
          have hcv := conv_own (l := acc ++ [47]) (by rw [List.map_append]; exact hown5) (by rw [HN1.out]; simp)
          clear hown4 hown5 hgrow5 hb4
          go_wp2_with fail
          go_ret2
          exact ⟨by rw [HL.out]; rfl, hb5⟩
        · have hEb : N.toList.isEmpty = false := by
            rw [empty_iff]
            cases hh : N.data.toList with
            | nil => exact absurd hh hE
            | cons _ _ => rfl
          obtain ⟨L, hL⟩ : ∃ L, L = acc ++ [47] ++ N.data.toList := ⟨_, rfl⟩
          have HL2 : Hid _ := hL
          have HL : Hid (O = some L) := by
            show _ = _
            rw [hLast, hL, piece_cons hE, if_neg hE]
            simp
          clear hf hLast hE hd HN hL H1 H2
          go_wp2_with (at_builtin; refine wpList_append_fits _ rfl _ _ 28 rfl w.heap.size 5 i0 1 Try.underlying28 hi hz1 w.heap.size n p.size _ rfl (hown4.alloc _) ⟨w4.heap.size, 0, none⟩ 1 1 [bv 47] rfl rfl (cell_one _ _ _) (by simp [Value.oneCell', bv]) (by omega) ?_; intro w5 hown5 hgrow5; refine Hid.out ?_)
          unfold Hid
          have hb5 : Below w.heap.size w w5 := (hb4.alloc hb4.size _).grown hgrow5 (by have := hb4.size; simp; omega) (by simp)
          clear hown4 hgrow5 hb4
          go_wp2_with (at_builtin; refine Lib.wpList_append_fits_string _ rfl _ _ 28 9 rfl w.heap.size 5 i0 Try.underlying28 Try.underlying9 hi hz1 (some ⟨w.heap.size, 0, none⟩) (n + 1) p.size _ rfl hown5 N rfl (by omega) (by omega) ?_; intro w6 hown6 hgrow6; refine Hid.out ?_)
          unfold Hid
          have hb6 : Below w.heap.size w w6 := hb5.grown hgrow6 hb5.size (by simp [Value.ownBlock])
          rw [strCells_bv] at hown6
          have hcv := conv_own (l := L) (by rw [HL2.out, List.map_append, List.map_append]; exact hown6) (by rw [HL2.out]; exact len2 N HN1.out)
          clear hown5 hown6 hgrow6 hb5
          go_wp2_with fail
          go_ret2
          exact ⟨by rw [HL.out]; rfl, hb6⟩
      · have hA := H1.out.2.2
        rw [if_pos hf.symm] at hA
        have hsz : B.size + A.size + 1 = R.size := by
          have := cut_len 47 R.data.toList hf.symm
          rw [← H1.out.2.1, ← hA, size_list, size_list, size_list] at this
          exact this
        have HA : Hid (wp (segs A.data.toList) (acc ++ piece N.data.toList) = O) := by
          show _ = _
          rw [← HN.out.2, segs_found _ hf.symm, ← H1.out.2.1, wp_cons _ _ _ (segs_ne _), ← H2.out, if_neg (by rw [hd]; simp), hA]
        by_cases hE : N.data.toList = []
        · have hEb : N.toList.isEmpty = true := by rw [empty_iff, hE]; rfl
          rw [hE, piece_nil, List.append_nil] at HA
          have X : Hid _ := And.intro hown4 hb4
          clear hf hA hE hd HN H1 H2 hown4 hb4
          go_wp2_with fail
          go_roundw
          case rel => exact ⟨A, acc, n, rfl, rfl, by omega, ⟨HN1.out, HA.out⟩, X.out.1, X.out.2⟩
          case measure => simp only [strSize]; omega
        · have hEb : N.toList.isEmpty = false := by
            rw [empty_iff]
            cases hh : N.data.toList with
            | nil => exact absurd hh hE
            | cons _ _ => rfl
          rw [piece_cons hE] at HA
          clear hf hA hE hd HN H1 H2
          go_wp2_with (at_builtin; refine wpList_append_fits _ rfl _ _ 28 rfl w.heap.size 5 i0 1 Try.underlying28 hi hz1 w.heap.size n p.size _ rfl (hown4.alloc _) ⟨w4.heap.size, 0, none⟩ 1 1 [bv 47] rfl rfl (cell_one _ _ _) (by simp [Value.oneCell', bv]) (by omega) ?_; intro w5 hown5 hgrow5; refine Hid.out ?_)
          unfold Hid
          have hb5 : Below w.heap.size w w5 := (hb4.alloc hb4.size _).grown hgrow5 (by have := hb4.size; simp; omega) (by simp)
          clear hown4 hgrow5 hb4
          go_wp2_with (at_builtin; refine Lib.wpList_append_fits_string _ rfl _ _ 28 9 rfl w.heap.size 5 i0 Try.underlying28 Try.underlying9 hi hz1 (some ⟨w.heap.size, 0, none⟩) (n + 1) p.size _ rfl hown5 N rfl (by omega) (by omega) ?_; intro w6 hown6 hgrow6; refine Hid.out ?_)
          unfold Hid
          have hb6 : Below w.heap.size w w6 := hb5.grown hgrow6 hb5.size (by simp [Value.ownBlock])
          rw [strCells_bv] at hown6
          have X : Hid _ := And.intro hown6 hb6
          clear hown5 hown6 hgrow6 hb5 hb6
          go_wp2_with fail
          go_roundw
          case rel => exact ⟨A, acc ++ 47 :: N.data.toList, n + 1 + N.size, rfl, rfl, by omega, ⟨len2' N HN1.out, HA.out⟩, by have := X.out.1; simpa using this, X.out.2⟩
          case measure => simp only [strSize]; omega
    · have HE : Hid (O = none) := by
        show _ = _
        rw [← HN.out.2]
        have hf := H1.out.1
        cases f
        · rw [segs_one _ hf.symm, ← bef_same 47 _ hf.symm, ← H1.out.2.1, wp_one, ← H2.out, if_pos hd]
        · rw [segs_found _ hf.symm, ← H1.out.2.1, wp_cons _ _ _ (segs_ne _), ← H2.out, if_pos hd]
      clear hd
      go_wp2_with fail
      go_ret2
      exact ⟨by rw [HE.out]; rfl, hb4⟩
end W
end Go.Proofs.Qxb6605328a

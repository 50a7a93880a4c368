import Derived.Test.Qxb6003666aBase
import Derived.OwnWalk
namespace Go.Proofs.Qxb6003666a
open Go.RowKit

theorem Try.info5 : (Try.prog.info? 5).map (fun i => (i.zero, i.size, i.bytes)) = some (some (.int .u8 0), 1, 1) := by kernel_rfl

theorem addr_add (b i : Nat) : (⟨b, 0, none⟩ : Addr).add i = ⟨b, i, none⟩ := by unfold Addr.add; split <;> simp_all
def bv (c : UInt8) : Value := .int .u8 (c.toNat : Int)
/-- The row behind k rounds: k swapped bytes, then zeros. -/
def rowAt (l : List UInt8) (k : Nat) : List Value := ((l.take k).map (fun c => bv (swp c))) ++ List.replicate (l.length - k) (.int .u8 0)
theorem rowAt_zero (l : List UInt8) : rowAt l 0 = List.replicate l.length (.int .u8 0) := by simp [rowAt]
theorem rowAt_succ (l : List UInt8) (k : Nat) (h : k < l.length) : (rowAt l k).set k (bv (swp l[k])) = rowAt l (k + 1) := by
  unfold rowAt
  obtain ⟨m, hm⟩ : ∃ m, l.length - k = m + 1 := ⟨l.length - k - 1, by omega⟩
  have hm2 : l.length - (k + 1) = m := by omega
  have hk : ((l.take k).map (fun c => bv (swp c))).length = k := by simp; omega
  rw [hm, hm2, List.replicate_succ, List.set_append_right _ _ (by omega), hk, Nat.sub_self, List.set_cons_zero, List.take_succ_eq_append_getElem h, List.map_append]
  simp
theorem rowAt_get (l : List UInt8) (k : Nat) (h : k < l.length) : (rowAt l k)[k]? = some (.int .u8 0) := by
  unfold rowAt
  have hk : ((l.take k).map (fun c => bv (swp c))).length = k := by simp; omega
  rw [List.getElem?_append_right (by omega), hk, Nat.sub_self, List.getElem?_replicate, if_pos (by omega)]
theorem rowAt_end (l : List UInt8) : rowAt l l.length = (l.map swp).map bv := by simp [rowAt]

theorem swp_lo (b : UInt8) (h1 : 97 ≤ (b.toNat : Int)) (h2 : (b.toNat : Int) ≤ 122) : bv (swp b) = .int .u8 ((b.toNat : Int) - 97 + 65) := by
  unfold bv swp
  rw [if_pos (by omega), UInt8.toNat_ofNat']
  congr 1
  omega
theorem swp_up (b : UInt8) (h1 : 65 ≤ (b.toNat : Int)) (h2 : (b.toNat : Int) ≤ 90) : bv (swp b) = .int .u8 ((b.toNat : Int) - 65 + 97) := by
  unfold bv swp
  rw [if_neg (by omega), if_pos (by omega), UInt8.toNat_ofNat']
  congr 1
  omega
theorem swp_no (b : UInt8) (h1 : ¬ (97 ≤ (b.toNat : Int) ∧ (b.toNat : Int) ≤ 122)) (h2 : ¬ (65 ≤ (b.toNat : Int) ∧ (b.toNat : Int) ≤ 90)) : bv (swp b) = .int .u8 (b.toNat : Int) := by
  unfold bv swp
  rw [if_neg (by omega), if_neg (by omega)]

set_option maxRecDepth 1000000 in
set_option maxHeartbeats 2000000 in
theorem swap_any (s : ByteArray) (w : World) (hs : s.size ≤ 4096) :
    Calls Try.prog 15 #[.string s] w fun e w' => e = .returned (.string ⟨(s.data.toList.map swp).toArray⟩) ∧ Below w.heap.size w w' := by
  obtain ⟨i0, hi, hz0, hz1, hz2⟩ := info_parts Try.info5
  have hlen : s.data.toList.length = s.size := by simp
  go_enter Try.func15, Try.ntmps15
  go_wp2_with (at_make; refine wpList_make_full _ rfl _ _ 28 rfl w.heap.size 5 i0 (.int .u8 0) 1 Try.underlying28 hi hz0 hz1 _ _ _ _ s.size rfl rfl (by omega) (by omega) (by rw [hz2]; omega) (by unfold maxLen; omega) (Nat.le_refl _) ?_; intro w1 hown hgrow)
  have hb1 : Below w.heap.size w w1 := (Below.refl _ _).grown hgrow (Nat.le_refl _) (by simp)
  have e0 : (madeCells (Value.int .u8 0).cells (s.size * 1)).toList = rowAt s.data.toList 0 := by
    rw [rowAt_zero, hlen, Nat.mul_one]
    exact toList_madeCells_one _ _
  rw [e0] at hown
  go_loopw [4, 5] (fun i _ wr => ∃ k : Nat, k ≤ s.size ∧ i = .int .i64 k ∧ wr.ownsRow w.heap.size 5 1 (.slice (some ⟨w.heap.size, 0, none⟩) s.size s.size) s.size (rowAt s.data.toList k) ∧ Below w.heap.size w wr) (fun i _ _ => s.size - (intOf i).toNat)
  case atStart => exact ⟨0, by omega, rfl, hown, hb1⟩
  case round =>
    clear hown hb1 hgrow e0 w1
    obtain ⟨k, hk, rfl, hown, hbw⟩ := hrel
    by_cases hlt : k < s.size
    · obtain ⟨b, hb⟩ : ∃ b : UInt8, s[k] = b := ⟨_, rfl⟩
      have hset := (hown.stored k (bv (swp b))).1
      have hset' : (rowAt s.data.toList k).set k (bv (swp b)) = rowAt s.data.toList (k + 1) := by
        rw [← hb]; exact rowAt_succ s.data.toList k (by omega)
      rw [hset'] at hset
      have hbI : (s[k].toNat : Int) = (b.toNat : Int) := by rw [hb]
      have hfz := hown.frozenAt k
      have hc0 : wr.cell? ⟨w.heap.size, k, none⟩ = some (.int .u8 0) := by
        rw [hown.cellAt k (by omega)]
        exact rowAt_get s.data.toList k (by omega)
      have hbs : Below w.heap.size w (wr.setCell ⟨w.heap.size, k, none⟩ (bv (swp b))) := hbw.setCell (Nat.le_refl _) _
      have hb256 : (b.toNat : Int) < 256 := by have := b.toNat_lt; omega
      clear hb hset' hown hbw
      have X : Hid _ := And.intro hset hbs
      clear hset hbs
      by_cases c1 : 97 ≤ (b.toNat : Int) ∧ (b.toNat : Int) ≤ 122
      · obtain ⟨c1, c2⟩ := c1
        rw [swp_lo b c1 c2] at X
        go_wp2
        exact ⟨⟨k + 1, by omega, by go_num, X.out.1, X.out.2⟩, by simp [intOf]; omega⟩
      · by_cases c2 : 65 ≤ (b.toNat : Int) ∧ (b.toNat : Int) ≤ 90
        · obtain ⟨c2, c3⟩ := c2
          rw [swp_up b c2 c3] at X
          have c4 : ¬ 97 ≤ (b.toNat : Int) := by omega
          clear c1
          go_wp2
          exact ⟨⟨k + 1, by omega, by go_num, X.out.1, X.out.2⟩, by simp [intOf]; omega⟩
        · rw [swp_no b c1 c2] at X
          have d1 : (b.toNat : Int) < 97 ∨ 122 < (b.toNat : Int) := by omega
          have d2 : (b.toNat : Int) < 65 ∨ 90 < (b.toNat : Int) := by omega
          clear c1 c2
          rcases d1 with d1 | d1
          · rcases d2 with d2 | d2
            all_goals
              go_wp2
              exact ⟨⟨k + 1, by omega, by go_num, X.out.1, X.out.2⟩, by simp [intOf]; omega⟩
          · clear d2
            go_wp2
            exact ⟨⟨k + 1, by omega, by go_num, X.out.1, X.out.2⟩, by simp [intOf]; omega⟩
    · obtain rfl : k = s.size := by omega
      have e1 : rowAt s.data.toList s.size = (s.data.toList.map swp).map bv := by rw [← hlen]; exact rowAt_end _
      rw [e1] at hown
      have hml : (s.data.toList.map swp).length = s.size := by rw [List.length_map]; exact hlen
      have hcv := run_convert_bytes_back (P := Try.prog) wr 28 9 5 ⟨w.heap.size, 0, none⟩ s.size (s.data.toList.map swp) Try.underlying28 Try.underlying5 Try.underlying9 (fun j hj => by
        have := hown.cellAt j (by omega)
        rw [List.getElem?_map, List.getElem?_eq_getElem hj] at this
        rw [addr_add]
        simpa [bv] using this)
      rw [hml] at hcv
      obtain ⟨L, hL⟩ : ∃ L, L = s.data.toList.map swp := ⟨_, rfl⟩
      rw [← hL] at hcv
      have HL : Hid (L = s.data.toList.map swp) := hL
      clear hown e1 hml hL
      go_wp2
      go_ret
      exact ⟨by rw [← HL.out]; rfl, hbw⟩

theorem ext_list (s : ByteArray) (k : Nat) : (s.extract 0 k).data.toList = s.data.toList.take k := by
  rw [ByteArray.data_extract, Array.toList_extract]
  simp
theorem ext_le (s : ByteArray) (k : Nat) : (s.extract 0 k).size ≤ s.size := by
  rw [ByteArray.size_extract]; omega
theorem swp_size (s : ByteArray) : (⟨(s.data.toList.map swp).toArray⟩ : ByteArray).size = s.size := by
  show (s.data.toList.map swp).toArray.size = s.size
  simp
theorem cat_list (a b : ByteArray) : (a ++ b).data.toList = a.data.toList ++ b.data.toList := by simp
theorem cat_size (a b : ByteArray) : (a ++ b).size = a.size + b.size := by simp
theorem f_seven (a : ByteArray) : sch ((⟨#[55]⟩ : ByteArray) ++ a).data.toList = false := by rw [cat_list]; exact sch_seven _
theorem f_plus (a : ByteArray) : sch ((⟨#[43]⟩ : ByteArray) ++ a).data.toList = false := by rw [cat_list]; exact sch_plus _
theorem f_colon (a : ByteArray) : sch (a ++ (⟨#[58]⟩ : ByteArray)).data.toList = false := by rw [cat_list]; exact sch_colon _
theorem f_more (a : ByteArray) (h : sch a.data.toList = true) : sch (a ++ (⟨#[120, 43, 49, 45, 46]⟩ : ByteArray)).data.toList = true := by rw [cat_list]; exact sch_more _ h
theorem b_seven (a : ByteArray) (h : a.size ≤ 4096) : ((⟨#[55]⟩ : ByteArray) ++ a).size ≤ maxLen := by
  rw [cat_size, show (⟨#[55]⟩ : ByteArray).size = 1 from rfl]; unfold maxLen; omega
theorem b_plus (a : ByteArray) (h : a.size ≤ 4096) : ((⟨#[43]⟩ : ByteArray) ++ a).size ≤ maxLen := by
  rw [cat_size, show (⟨#[43]⟩ : ByteArray).size = 1 from rfl]; unfold maxLen; omega
theorem b_colon (a : ByteArray) (h : a.size ≤ 4096) : (a ++ (⟨#[58]⟩ : ByteArray)).size ≤ maxLen := by
  rw [cat_size, show (⟨#[58]⟩ : ByteArray).size = 1 from rfl]; unfold maxLen; omega
theorem b_more (a : ByteArray) (h : a.size ≤ 4096) : (a ++ (⟨#[120, 43, 49, 45, 46]⟩ : ByteArray)).size ≤ maxLen := by
  rw [cat_size, show (⟨#[120, 43, 49, 45, 46]⟩ : ByteArray).size = 5 from rfl]; unfold maxLen; omega

set_option maxRecDepth 1000000 in
set_option maxHeartbeats 2000000 in
theorem walk (a0 : ByteArray) (w0 : a0.size ≤ maxLen) (w : World) :
    Calls Try.prog 5 #[.string a0] w fun e w' => e = .returned (.bool true) ∧ Below w.heap.size w w' := by
  by_cases hsz : a0.size ≤ 1048576
  · by_cases h12 : a0.size ≤ 4096
    · have hsz1 : ¬ (4096 : Int) < (a0.size : Int) := by omega
      cases hsc : sch a0.data.toList
      · go_enter Try.func5, Try.ntmps5
        go_wp2_with (first | (go_at_call 13; refine (bytes_any _ _ w0).mono ?_; rintro e w' ⟨rfl, hw⟩; rw [hw, decide_eq_true hsz]) | (go_at_call 14; refine (ZZs_any _ _ w0).mono ?_; rintro e w' ⟨rfl, hw⟩; rw [hw, hsc]))
        go_ret
        exact ⟨rfl, Below.refl _ _⟩
      · go_enter Try.func5, Try.ntmps5
        go_wp2_with (first | (go_at_call 13; refine (bytes_any _ _ w0).mono ?_; rintro e w' ⟨rfl, hw⟩; rw [hw, decide_eq_true hsz]) | (go_at_call 14; refine (ZZs_any _ _ w0).mono ?_; rintro e w' ⟨rfl, hw⟩; rw [hw, hsc]) | (go_at_call 8; refine (ZZu_any _ _ _ w0 (sch_all _ hsc)).mono ?_; rintro e w' ⟨rfl, hw⟩; rw [hw]))
        go_loop [3] (fun i => ∃ k : Nat, 1 ≤ k ∧ k ≤ a0.size + 1 ∧ i = .int .i64 k) (fun i => a0.size + 1 - (intOf i).toNat)
        case atStart => exact ⟨1, by omega, by omega, rfl⟩
        case round =>
          obtain ⟨k, hk1, hk, rfl⟩ := hrel
          by_cases hlt : k ≤ a0.size
          · have hp : sch (a0.extract 0 k).data.toList = true := by rw [ext_list]; exact sch_take _ _ hsc hk1
            have hle := ext_le a0 k
            go_wp2_with (go_at_call 14; refine (ZZs_any _ _ (by omega)).mono ?_; rintro e w' ⟨rfl, hw⟩; rw [hw, hp])
            go_round
            case rel => exact ⟨k + 1, by omega, by omega, by go_num⟩
            case measure => simp [intOf]; omega
          · obtain rfl : k = a0.size + 1 := by omega
            go_wp2_with fail
            refine (swap_any a0 _ h12).mono ?_
            rintro e w1 ⟨rfl, hb⟩
            have hsw : sch (⟨(a0.data.toList.map swp).toArray⟩ : ByteArray).data.toList = true := (sch_swp _).trans hsc
            have hms : (⟨(a0.data.toList.map swp).toArray⟩ : ByteArray).size ≤ maxLen := by
              have := swp_size a0
              omega
            go_wp2_with fail
            refine (ZZs_any _ _ hms).mono ?_
            rintro e w' ⟨rfl, hw⟩
            rw [hw, hsw]
            clear hsw hms
            go_wp2_with fail
            refine (ZZs_any _ _ (b_seven a0 h12)).mono ?_
            rintro e w' ⟨rfl, hw⟩
            rw [hw, f_seven a0]
            go_wp2_with fail
            refine (ZZs_any _ _ (b_plus a0 h12)).mono ?_
            rintro e w' ⟨rfl, hw⟩
            rw [hw, f_plus a0]
            go_wp2_with fail
            refine (ZZs_any _ _ (b_colon a0 h12)).mono ?_
            rintro e w' ⟨rfl, hw⟩
            rw [hw, f_colon a0]
            go_wp2_with fail
            refine (ZZs_any _ _ (b_more a0 h12)).mono ?_
            rintro e w' ⟨rfl, hw⟩
            rw [hw, f_more a0 hsc]
            go_wp2_with fail
            go_ret
            exact ⟨rfl, hb⟩
    · have hsz1 : (4096 : Int) < (a0.size : Int) := by omega
      go_enter Try.func5, Try.ntmps5
      go_wp2_with (go_at_call 13; refine (bytes_any _ _ w0).mono ?_; rintro e w' ⟨rfl, hw⟩; rw [hw, decide_eq_true hsz])
      go_ret
      exact ⟨rfl, Below.refl _ _⟩
  · go_enter Try.func5, Try.ntmps5
    go_wp2_with (go_at_call 13; refine (bytes_any _ _ w0).mono ?_; rintro e w' ⟨rfl, hw⟩; rw [hw, decide_eq_false hsz])
    go_ret
    exact ⟨rfl, Below.refl _ _⟩
end Go.Proofs.Qxb6003666a

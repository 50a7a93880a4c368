import Derived.Test.Qxb6605282aKeptM
import Derived.OwnWalk
import Derived.Deep.RegionWith
namespace Go.Proofs.Qxb6605282a
open Go.RowKit

theorem info5 : (Try.prog.info? 5).map (fun i => (i.zero, i.size, i.bytes)) = some (some (.int .u8 0), 1, 1) := by kernel_rfl

def bv (c : UInt8) : Value := .int .u8 (c.toNat : Int)
/-- The row behind p stores: p bytes of S, then zeros. -/
def rowAt (S : List UInt8) (p : Nat) : List Value := (S.take p).map bv ++ List.replicate (S.length - p) (.int .u8 0)
theorem rowAt_zero (S : List UInt8) : rowAt S 0 = List.replicate S.length (.int .u8 0) := by simp [rowAt]
theorem rowAt_succ (S : List UInt8) (p : Nat) (h : p < S.length) : (rowAt S p).set p (bv (S.getD p 0)) = rowAt S (p + 1) := by
  unfold rowAt
  obtain ⟨q, hq⟩ : ∃ q, S.length - p = q + 1 := ⟨S.length - p - 1, by omega⟩
  have hq2 : S.length - (p + 1) = q := by omega
  have hk : ((S.take p).map bv).length = p := by simp; omega
  rw [hq, hq2, List.replicate_succ, List.set_append_right _ _ (by omega), hk, Nat.sub_self, List.set_cons_zero, List.take_succ_eq_append_getElem h, List.map_append, List.getD_eq_getElem?_getD, List.getElem?_eq_getElem h]
  simp
theorem rowAt_get (S : List UInt8) (p : Nat) (h : p < S.length) : (rowAt S p)[p]? = some (.int .u8 0) := by
  unfold rowAt
  have hk : ((S.take p).map bv).length = p := by simp; omega
  rw [List.getElem?_append_right (by omega), hk, Nat.sub_self, List.getElem?_replicate, if_pos (by omega)]
theorem rowAt_end (S : List UInt8) (i : Nat) (h : i < S.length) : (rowAt S S.length)[i]? = some (.int .u8 ((S.getD i 0).toNat : Int)) := by
  unfold rowAt
  rw [List.take_length, Nat.sub_self, List.replicate_zero, List.append_nil, List.getElem?_map, List.getD_eq_getElem?_getD, List.getElem?_eq_getElem h]
  rfl
theorem joined_get (ls : List (List UInt8)) (k j : Nat) (hk : k < ls.length) (hj : j < (pc ls k).length) : (joined ls ls.length).getD (st ls k + j) 0 = (pc ls k).getD j 0 := by
  have key : ∀ d, k + 1 + d ≤ ls.length → ∃ r, joined ls (k + 1 + d) = joined ls k ++ (pc ls k ++ r) := by
    intro d
    induction d with
    | zero => intro _; exact ⟨[], by rw [Nat.add_zero, joined_succ ls k hk]; simp⟩
    | succ d ih =>
      intro hd
      obtain ⟨r, hr⟩ := ih (by omega)
      refine ⟨r ++ pc ls (k + 1 + d), ?_⟩
      rw [show k + 1 + (d + 1) = k + 1 + d + 1 from rfl, joined_succ ls _ (by omega), hr]
      simp
  obtain ⟨r, hr⟩ := key (ls.length - (k + 1)) (by omega)
  rw [show k + 1 + (ls.length - (k + 1)) = ls.length from by omega] at hr
  rw [hr, List.getD_eq_getElem?_getD, List.getD_eq_getElem?_getD]
  unfold st
  rw [List.getElem?_append_right (by omega), show (joined ls k).length + j - (joined ls k).length = j from by omega, List.getElem?_append_left hj]
theorem HB.parts {w : World} {B : Nat} {ap : Option Addr} {n c : Nat} {l : List UInt8} (h : HB w B (.slice ap n c) l) : n = l.length ∧ (l.length = 0 ∨ ∃ pb po, ap = some ⟨pb, po, none⟩ ∧ pb < B ∧ ∀ i, i < l.length → w.cell? ⟨pb, po + i, none⟩ = some (.int .u8 ((l.getD i 0).toNat : Int))) := by
  obtain ⟨ap', c', h1, h2, h3, h4⟩ := h
  simp only [Value.slice.injEq] at h1
  obtain ⟨rfl, rfl, rfl⟩ := h1
  refine ⟨rfl, ?_⟩
  rcases h4 with h4 | ⟨a, rfl, h4⟩
  · exact .inl h4.2.1
  · rcases h4 with h4 | ⟨b, o, rfl, hb, hc⟩
    · exact .inl h4
    · exact .inr ⟨b, o, rfl, hb, hc⟩
theorem below_drew_self (w : World) (B : Nat) : Below B w w.drew := (Below.refl B w).drew
theorem zzR_len (K l : List UInt8) (f : Bool) (off a : Int) (hK : K.length ≤ 2) : (zzR K l f off a).1.length ≤ 2 := by
  unfold zzR
  split
  · exact hK
  · exact scanR_len K l off a hK
theorem good_next (ls : List (List UInt8)) (k : Nat) (hk : k < ls.length) {of : Nat} (hof : of = st ls k) {K : List UInt8} {f : Bool} {a : Int} (h : Good (joined ls k) (st ls) K f a) :
    Good (joined ls (k + 1)) (st ls) (zzR K (pc ls k) f (of : Int) a).1 (zzR K (pc ls k) f (of : Int) a).2.1 (zzR K (pc ls k) f (of : Int) a).2.2 := by
  rw [joined_succ ls k hk]
  unfold zzR
  cases f
  · rw [if_neg (by simp)]
    obtain ⟨h1, rfl, rfl⟩ := good_none h
    rw [hof]
    exact good_step (k := k) h1 rfl (st_succ ls k hk)
  · rw [if_pos rfl]
    exact good_found h
set_option maxRecDepth 1000000 in
set_option maxHeartbeats 4000000 in
theorem walk_pos (ls : List (List UInt8)) (b o c m : Nat) (hm : ls.length = m) (hm0 : 0 < m) (mx : Int) (w : World) (hP : PS w w.heap.size b o ls) (hmx : w.cell? ⟨0, 0, none⟩ = some (.int .i64 mx)) (h0 : 0 < w.heap.size) (hmm : m ≤ maxLen) :
    Calls Try.prog 4 #[.slice (some ⟨b, o, none⟩) m c] w fun e w' => e = .returned (.bool true) ∧ Below w.heap.size w w' := by
  obtain ⟨i0, hi, hz0, hz1, hz2⟩ := info_parts info5
  have HP : Hid _ := hP
  have HM : Hid _ := hm
  have HX : Hid _ := hmx
  clear hP hm hmx
  go_enter Try.func4, Try.ntmps4
  go_wp2_with fail
  refine (bytes_any ls b o c m HM.out w HP.out hmm).mono ?_
  rintro e w' ⟨hw, β, rfl, hβ⟩
  rw [hw]
  clear hw
  cases β
  · go_wp2_with fail
    go_ret
    exact ⟨rfl, Below.refl _ _⟩
  have hb2 : m + st ls m ≤ 1048576 := by have := hβ rfl; rw [HM.out] at this; exact this
  have HB2 : Hid _ := hb2
  have hm20 : m ≤ 1048576 := by omega
  clear hβ hb2
  by_cases hbig : 65536 < m ∨ 1048576 < 24 * m
  · rcases hbig with hb1 | hb1
    · have hbI : (65536 : Int) < (m : Int) := by omega
      go_wp2_with fail
      go_ret
      exact ⟨rfl, Below.refl _ _⟩
    · by_cases hb3 : 65536 < m
      · have hbI : (65536 : Int) < (m : Int) := by omega
        go_wp2_with fail
        go_ret
        exact ⟨rfl, Below.refl _ _⟩
      · have hbI : ¬ (65536 : Int) < (m : Int) := by omega
        have hbJ : (1048576 : Int) < 24 * (m : Int) := by omega
        go_wp2_with fail
        go_ret
        exact ⟨rfl, Below.refl _ _⟩
  have hbI : ¬ (65536 : Int) < (m : Int) := by omega
  have hbJ : ¬ (1048576 : Int) < 24 * (m : Int) := by omega
  clear hbig
  go_wp2_with fail
  go_loop [3, 4] (fun z i => ∃ k : Nat, k ≤ m ∧ i = .int .i64 k ∧ ∃ t : Nat, z = .int .i64 t ∧ t ≤ 1048576 ∧ Hid (t = st ls k)) (fun _ i => m - (intOf i).toNat)
  case atStart => exact ⟨0, by omega, rfl, 0, rfl, by omega, rfl⟩
  case round =>
    obtain ⟨k, hk, rfl, t, rfl, ht, HT⟩ := hrel
    by_cases hlt : k < m
    · obtain ⟨ap, c2, hcell, hHB⟩ := HP.out.2 k (by rw [HM.out]; exact hlt)
      clear hHB
      obtain ⟨n, hn⟩ : ∃ n, n = (pc ls k).length := ⟨_, rfl⟩
      rw [← hn] at hcell
      have HN : Hid (st ls (k + 1) = st ls k + n) := by show _ = _; rw [hn]; exact st_succ ls k (by rw [HM.out]; exact hlt)
      have htn : t + n ≤ 1048576 := by
        have h3 := st_mono ls (k + 1) m (by omega) (by rw [HM.out]; omega)
        have h4 := HN.out
        have h5 := HB2.out
        have h6 := HT.out
        omega
      clear hn
      by_cases hover : 1048576 < t + n + 24 * m
      · have hoI : (1048576 : Int) < (t : Int) + (n : Int) + 24 * (m : Int) := by omega
        go_wp2
        go_ret
        exact ⟨rfl, Below.refl _ _⟩
      · have hoI : ¬ (1048576 : Int) < (t : Int) + (n : Int) + 24 * (m : Int) := by omega
        go_wp2
        go_round
        case rel => exact ⟨k + 1, by omega, by go_num, t + n, by go_num, by omega, by show _ = _; rw [HT.out, HN.out]⟩
        case measure => simp [intOf]; omega
    · obtain rfl : m = k := by omega
      go_wp2_with fail
      clear hlt hk
      go_loopw [6, 7, 8, 9, 10] (fun vl vf va vo vk wr => ∃ (k of : Nat) (K : List UInt8) (f : Bool) (a t0 t1 : Int), k ≤ m ∧ vk = .int .i64 k ∧ vo = .int .i64 of ∧ of ≤ 1048576 ∧ vl = .int .i64 (K.length : Int) ∧ vf = .bool f ∧ va = .int .i64 a ∧ K.length ≤ 2 ∧ Hid (of = st ls k ∧ Good (joined ls k) (st ls) K f a ∧ kb K 0 = .int .u8 t0 ∧ kb K 1 = .int .u8 t1) ∧ wr.heap[w.heap.size]? = some (.cells #[.int .u8 t0, .int .u8 t1] 22 (0, 0)) ∧ Below w.heap.size w wr) (fun _ _ _ _ vk _ => m - (intOf vk).toNat)
      case atStart => exact ⟨0, 0, [], false, 0, 0, 0, by omega, rfl, rfl, by omega, rfl, rfl, rfl, by simp, ⟨rfl, good_nil _, rfl, rfl⟩, (MapKept.heap_alloc w _).1, (Below.refl _ _).alloc (Nat.le_refl _) _⟩
      case round =>
        obtain ⟨k, of, K, f, a, t0, t1, hk, rfl, rfl, hof, rfl, rfl, rfl, hK, HG, hblk, hbw⟩ := hrel
        by_cases hlt : k < m
        · obtain ⟨ap, c2, hcell, hHB⟩ := (PS.below HP.out hbw (Nat.le_refl _)).2 k (by rw [HM.out]; exact hlt)
          obtain ⟨n, hn⟩ : ∃ n, n = (pc ls k).length := ⟨_, rfl⟩
          rw [← hn] at hcell hHB
          have HN : Hid (st ls (k + 1) = st ls k + n) := by show _ = _; rw [hn]; exact st_succ ls k (by rw [HM.out]; exact hlt)
          have htn : of + n ≤ 1048576 := by
            have h3 := st_mono ls (k + 1) m (by omega) (by rw [HM.out]; omega)
            have h4 := HN.out
            have h5 := HB2.out
            have h6 := HG.out.1
            omega
          have hlen : (pc ls k).length ≤ 1048576 := by omega
          have HNL : Hid _ := hn
          clear hn
          have tc0 : wr.cell? ⟨w.heap.size, 0, none⟩ = some (.int .u8 t0) := cell_at hblk 0
          have tc1 : wr.cell? ⟨w.heap.size, 1, none⟩ = some (.int .u8 t1) := cell_at hblk 1
          have hbb : ¬ b = w.heap.size := by have := HP.out.1; omega
          have hszr : w.heap.size < wr.heap.size := by
            have := (Array.getElem?_eq_some_iff.1 hblk).1
            exact this
          have hkI : (k : Int) < (m : Int) := by omega
          have HHB : Hid _ := hHB
          have HBL : Hid _ := hblk
          have HBW : Hid _ := hbw
          have hmr : wr.cell? ⟨0, 0, none⟩ = some (.int .i64 mx) := (hbw.cell (p := ⟨0, 0, none⟩) h0).trans HX.out
          have HMR : Hid _ := hmr
          clear hHB hblk hbw hmr
          obtain ⟨R, hR⟩ : ∃ R, R = zzR K (pc ls k) f (of : Int) a := ⟨_, rfl⟩
          have hzc := zz_any K (pc ls k) hK f (.slice ap n c2) a (of : Int) mx wr.drew (HB.below HHB.out (below_drew_self wr _) (by show w.heap.size ≤ wr.heap.size; omega)) hlen HMR.out (by show 0 < wr.heap.size; omega) (by omega) (by omega)
          rw [HG.out.2.2.1, HG.out.2.2.2, ← hR] at hzc
          obtain ⟨u0, hu0⟩ : ∃ t : Int, kb R.1 0 = .int .u8 t := ⟨_, rfl⟩
          obtain ⟨u1, hu1⟩ : ∃ t : Int, kb R.1 1 = .int .u8 t := ⟨_, rfl⟩
          rw [hu0, hu1] at hzc
          have hRl : R.1.length ≤ 2 := by rw [hR]; exact zzR_len K _ f _ _ hK
          have HGN : Hid (Good (joined ls (k + 1)) (st ls) R.1 R.2.1 R.2.2) := by
            rw [hR]
            exact good_next ls k (by rw [HM.out]; exact hlt) HG.out.1 HG.out.2.1
          have HZ : Hid _ := hzc
          have HU : Hid _ := And.intro hu0 hu1
          obtain ⟨K2, f2, a2⟩ := R
          simp only at hRl
          clear hzc hR hu0 hu1
          go_wp2_with fail
          go_region_with (go_at_call 9; refine Calls.mono HZ.out ?_; rintro e V ⟨rfl, hbV⟩; have vb := (hbV.block w.heap.size hszr).trans HBL.out; have v0 : V.cell? ⟨w.heap.size, 0, none⟩ = some (.int .u8 t0) := cell_at vb 0; have v1 : V.cell? ⟨w.heap.size, 1, none⟩ = some (.int .u8 t1) := cell_at vb 1; have g0 : V.frozen? ⟨w.heap.size, 0, none⟩ = false := free_at vb 0; have g1 : V.frozen? ⟨w.heap.size, 1, none⟩ = false := free_at vb 1; have HVB : Hid _ := And.intro vb hbV; clear vb hbV)
          all_goals
            have pcl : V.cell? ⟨b, o + k, none⟩ = some (.slice ap n c2) := (HVB.out.2.cell (p := ⟨b, o + k, none⟩) (by have := HP.out.1; show b < wr.heap.size; omega)).trans hcell
            have HBF : Hid (Below w.heap.size w V) := (HBW.out.trans (below_drew_self wr _)).trans (HVB.out.2.mono (by show w.heap.size ≤ wr.heap.size; omega))
            clear hcell tc0 tc1
            go_wp2_with fail
            go_roundw
            case rel => exact ⟨k + 1, of + n, K2, f2, a2, u0, u1, by omega, by go_num, by go_num, by omega, rfl, rfl, rfl, hRl, ⟨by rw [HG.out.1, HN.out], HGN.out, HU.out.1, HU.out.2⟩, block_set (block_set HVB.out.1 0 _) 1 _, (HBF.out.setCell (Nat.le_refl _) _).setCell (Nat.le_refl _) _⟩
            case measure => simp [intOf]; omega
        · obtain rfl : m = k := by omega
          have hkI : ¬ (m : Int) < (m : Int) := by omega
          obtain ⟨S, hS⟩ : ∃ S, S = joined ls m := ⟨_, rfl⟩
          have HSL : Hid (S.length = t) := by show _ = _; rw [hS, HT.out]; rfl
          have HSJ : Hid _ := hS
          clear hS hlt
          go_wp2_with (at_make; refine wpList_make_full _ rfl _ _ 23 rfl wr.heap.size 5 i0 (.int .u8 0) 1 Try.underlying23 hi hz0 hz1 _ _ _ _ t rfl rfl (by omega) (by omega) (by rw [hz2]; omega) (by unfold maxLen; omega) (Nat.le_refl _) ?_; intro w1 hown hgrow; refine Hid.out ?_)
          unfold Hid
          have hb1 : Below wr.heap.size wr w1 := (Below.refl _ _).grown hgrow (Nat.le_refl _) (by simp)
          clear hgrow
          go_wp2_with fail
          have e0 : (madeCells (Value.int .u8 0).cells (t * 1)).toList = rowAt S 0 := by
            rw [rowAt_zero, HSL.out, Nat.mul_one]
            exact toList_madeCells_one _ _
          rw [e0] at hown
          obtain ⟨W0, rfl⟩ : ∃ W0 : World, W0 = wr := ⟨_, rfl⟩
          have hszW : w.heap.size < W0.heap.size := (Array.getElem?_eq_some_iff.1 hblk).1
          have HP0 : Hid (PS W0 W0.heap.size b o ls) := PS.below HP.out hbw (by omega)
          have HBL : Hid _ := hblk
          have HBW : Hid _ := hbw
          clear e0 hblk hbw
          go_loopw [12, 13, 14] (fun vw vk _ wr => ∃ (k p : Nat), k ≤ m ∧ vk = .int .i64 k ∧ vw = .int .i64 p ∧ p ≤ t ∧ Hid (p = st ls k) ∧ wr.ownsRow W0.heap.size 5 1 (.slice (some ⟨W0.heap.size, 0, none⟩) t t) t (rowAt S p) ∧ Below W0.heap.size W0 wr) (fun _ vk _ _ => m - (intOf vk).toNat)
          case atStart => exact ⟨0, 0, by omega, rfl, rfl, by omega, rfl, hown, hb1⟩
          case round =>
            clear hown hb1
            obtain ⟨k, p, hk, rfl, rfl, hpt, HPT, hown, hbw⟩ := hrel
            by_cases hlt : k < m
            · have hkI2 : (k : Int) < (m : Int) := by omega
              obtain ⟨ap, c2, hcell0, hHB⟩ := HP0.out.2 k (by rw [HM.out]; exact hlt)
              obtain ⟨_, hcases⟩ := HB.parts hHB
              obtain ⟨n, hn⟩ : ∃ n, n = (pc ls k).length := ⟨_, rfl⟩
              have HN : Hid (st ls (k + 1) = st ls k + n) := by show _ = _; rw [hn]; exact st_succ ls k (by rw [HM.out]; exact hlt)
              have hpn : p + n ≤ t := by
                have h3 := st_mono ls (k + 1) m (by omega) (by rw [HM.out]; omega)
                have h4 := HN.out
                have h5 := HPT.out
                have h6 := HT.out
                omega
              have HGET : Hid (∀ j, j < n → S.getD (p + j) 0 = (pc ls k).getD j 0) := fun j hj => by
                have h3 := joined_get ls k j (by rw [HM.out]; exact hlt) (by omega)
                rw [HM.out, ← HSJ.out, ← HPT.out] at h3
                exact h3
              rw [← hn] at hcell0 hcases
              clear hn hHB
              have hbW : b < W0.heap.size := HP0.out.1
              rcases hcases with h0n | ⟨pb, po, rfl, hpb, hbytes⟩
              · have hcell : wr.cell? ⟨b, o + k, none⟩ = some (.slice ap n c2) := (hbw.cell (p := ⟨b, o + k, none⟩) hbW).trans hcell0
                have X : Hid _ := And.intro hown hbw
                have hn0 : ¬ (0 : Int) < (n : Int) := by omega
                have HN0 : Hid _ := h0n
                clear hown hbw hcell0 h0n
                go_wp2_with fail
                refine wp_loop_rounds 1 ?_
                rw [rounds_succ]
                go_wp2_with fail
                go_roundw
                case rel => exact ⟨k + 1, p, by omega, by go_num, rfl, by omega, by show _ = _; rw [HPT.out, HN.out, HN0.out]; rfl, X.out.1, X.out.2⟩
                case measure => simp [intOf]; omega
              · have HBY : Hid _ := hbytes
                have HC0 : Hid _ := hcell0
                have hcell : wr.cell? ⟨b, o + k, none⟩ = some (.slice (some ⟨pb, po, none⟩) n c2) := (hbw.cell (p := ⟨b, o + k, none⟩) hbW).trans hcell0
                have X0 : Hid _ := And.intro hown hbw
                clear hown hbw hbytes hcell0
                go_wp2_with fail
                obtain ⟨wo, rfl⟩ : ∃ wo : World, wo = wr := ⟨_, rfl⟩
                clear hcell
                go_loopw [12, 14] (fun vw vj wr => ∃ (j q : Nat), j ≤ n ∧ vj = .int .i64 j ∧ vw = .int .i64 q ∧ q ≤ t ∧ Hid (q = p + j) ∧ wr.ownsRow W0.heap.size 5 1 (.slice (some ⟨W0.heap.size, 0, none⟩) t t) t (rowAt S q) ∧ Below W0.heap.size W0 wr) (fun _ vj _ => n - (intOf vj).toNat)
                case atStart => exact ⟨0, p, by omega, rfl, rfl, by omega, rfl, X0.out.1, X0.out.2⟩
                case round =>
                  clear X0
                  obtain ⟨j, q, hj, rfl, rfl, hqt, HQ, hown, hbw⟩ := hrel
                  have hcell : wr.cell? ⟨b, o + k, none⟩ = some (.slice (some ⟨pb, po, none⟩) n c2) := (hbw.cell (p := ⟨b, o + k, none⟩) hbW).trans HC0.out
                  by_cases hjn : j < n
                  · have hjI : (j : Int) < (n : Int) := by omega
                    have hqt2 : q < t := by have := HQ.out; omega
                    have hqI : (q : Int) < (t : Int) := by omega
                    obtain ⟨y, hy⟩ : ∃ y, y = S.getD q 0 := ⟨_, rfl⟩
                    have hyb : y = (pc ls k).getD j 0 := by rw [hy, HQ.out]; exact HGET.out j hjn
                    have cb : wr.cell? ⟨pb, po + j, none⟩ = some (.int .u8 (y.toNat : Int)) := by rw [hyb]; exact (hbw.cell (p := ⟨pb, po + j, none⟩) hpb).trans (HBY.out j hjn)
                    have cw : wr.cell? ⟨W0.heap.size, q, none⟩ = some (.int .u8 0) := by
                      rw [hown.cellAt q (by omega)]
                      exact rowAt_get S q (by rw [HSL.out]; exact hqt2)
                    have fw := hown.frozenAt q
                    have hset := (hown.stored q (bv y)).1
                    rw [hy, rowAt_succ S q (by rw [HSL.out]; exact hqt2), ← hy] at hset
                    have X : Hid _ := And.intro hset (hbw.setCell (p := ⟨W0.heap.size, q, none⟩) (Nat.le_refl _) (bv y))
                    clear hset hown hbw hy hyb
                    go_wp2_with fail
                    go_roundw
                    case rel => exact ⟨j + 1, q + 1, by omega, by go_num, by go_num, by omega, by show _ = _; rw [HQ.out]; rfl, X.out.1, X.out.2⟩
                    case measure => simp [intOf]; omega
                  · obtain rfl : n = j := by omega
                    have hjI : ¬ (n : Int) < (n : Int) := by omega
                    have X : Hid _ := And.intro hown hbw
                    clear hown hbw
                    go_wp2_with fail
                    go_roundw
                    case rel => exact ⟨k + 1, q, by omega, by go_num, rfl, by omega, by show _ = _; rw [HQ.out, HPT.out, HN.out], X.out.1, X.out.2⟩
                    case measure => simp [intOf]; omega
            · obtain rfl : m = k := by omega
              obtain rfl : t = p := by have h5 := HPT.out; have h6 := HT.out; omega
              have hkI3 : ¬ (m : Int) < (m : Int) := by omega
              have hcells : ∀ i, i < t → wr.cell? ⟨W0.heap.size, i, none⟩ = some (.int .u8 ((S.getD i 0).toNat : Int)) := fun i hi => by
                rw [hown.cellAt i (by omega)]
                have h3 := rowAt_end S i (by rw [HSL.out]; exact hi)
                rw [HSL.out] at h3
                exact h3
              have hGsz : W0.heap.size < wr.heap.size := by
                rcases hown.2 with ⟨h3, _⟩ | ⟨g, cap, cur, h3, _, h4, _⟩
                · simp at h3
                · simp only [Value.slice.injEq, Option.some.injEq, Addr.mk.injEq, and_true, true_and] at h3
                  rw [← h3.1] at h4
                  exact (Array.getElem?_eq_some_iff.1 h4).1
              have hTb : wr.heap[w.heap.size]? = some (.cells #[.int .u8 t0, .int .u8 t1] 22 (0, 0)) := (hbw.block _ hszW).trans HBL.out
              have tc0 : wr.cell? ⟨w.heap.size, 0, none⟩ = some (.int .u8 t0) := cell_at hTb 0
              have tc1 : wr.cell? ⟨w.heap.size, 1, none⟩ = some (.int .u8 t1) := cell_at hTb 1
              have HC : Hid _ := hcells
              have HBE : Hid (Below w.heap.size w wr) := HBW.out.trans (hbw.mono (by omega))
              have HPW : Hid (PS wr wr.heap.size b o ls) := PS.below HP0.out hbw (by omega)
              have hkept : ∀ n0 : Nat, n0 ≤ t → K = last2 (S.take n0) → Calls Try.prog 14 #[.agg #[.int .u8 t0, .int .u8 t1], .int .i64 (K.length : Int), .slice (some ⟨W0.heap.size, 0, none⟩) t t, .int .i64 (n0 : Int)] wr fun e w' => e = .returned (.bool true) ∧ Below wr.heap.size wr w' := fun n0 hn0 hKn => by
                have h3 := kept_any S W0.heap.size t t n0 HSL.out hn0 (by omega) wr hGsz HC.out K hKn
                rw [HG.out.2.2.1, HG.out.2.2.2] at h3
                exact h3
              have HK : Hid _ := hkept
              clear hcells hown hbw hTb hkept
              go_wp2_with fail
              refine (firstMark_any S W0.heap.size t t HSL.out (by omega) wr HC.out).mono ?_
              rintro e w'' ⟨rfl, hw⟩
              rw [hw]
              clear hw
              rcases HG.out.2.1 with ⟨hNo, hf, ha, hKK⟩ | ⟨i, k0, hF, hf, ha, hs1, hs2, hs3, hKK⟩
              · have hI : Lib.index S mk3 = -1 := by rw [HSJ.out]; exact idx_no hNo
                have HKF : Hid (K = last2 (S.take t)) := by
                  show _ = _
                  rw [hKK, ← HSJ.out, List.take_of_length_le (by rw [HSL.out]; exact Nat.le_refl _)]
                rw [hI]
                clear hI hNo hKK
                go_wp2_with fail
                refine Calls.mono (HK.out t (Nat.le_refl _) HKF.out) ?_
                rintro e w3 ⟨rfl, hb3⟩
                go_wp2_with fail
                go_ret
                exact ⟨rfl, HBE.out.trans (hb3.mono (by have := HBE.out.size; omega))⟩
              · rw [← HSJ.out] at hF hs3 hKK
                have hI : Lib.index S mk3 = (i : Int) := idx_first hF
                have hilt := hF.1.lt
                rw [HSL.out] at hilt hs3
                have hk0 : k0 < m := by
                  apply Classical.byContradiction
                  intro hge
                  have e1 : st ls (k0 + 1) = st ls k0 := by
                    unfold st joined
                    rw [List.take_of_length_le (by rw [HM.out]; omega), List.take_of_length_le (by rw [HM.out]; omega)]
                  omega
                have hps : Calls Try.prog 13 #[.slice (some ⟨b, o, none⟩) m c, .int .i64 ((i : Int) + 2)] wr fun e w' => e = .returned (.int .i64 (st ls k0 : Int)) ∧ w' = wr := by
                  have h3 := psh_any ls b o c m (i + 2) k0 HM.out wr HPW.out hk0 hs1 hs2 (by omega) (by have := HB2.out; omega)
                  rw [show (((i + 2 : Nat)) : Int) = (i : Int) + 2 from by omega] at h3
                  exact h3
                have HPS : Hid _ := hps
                have HKF : Hid (st ls k0 ≤ t ∧ K = last2 (S.take (st ls k0))) := ⟨hs3, hKK⟩
                rw [hI]
                have hi20 : (i : Int) ≤ 1048576 := by omega
                have hi0 : (0 : Int) ≤ (i : Int) := by omega
                clear hI hF hs1 hs2 hs3 hKK hps
                go_wp2_with fail
                refine Calls.mono HPS.out ?_
                rintro e w3 ⟨rfl, hw⟩
                rw [hw]
                clear hw
                go_wp2_with fail
                refine Calls.mono (HK.out (st ls k0) HKF.out.1 HKF.out.2) ?_
                rintro e w3 ⟨rfl, hb3⟩
                go_wp2_with fail
                go_ret
                exact ⟨rfl, HBE.out.trans (hb3.mono (by have := HBE.out.size; omega))⟩
end Go.Proofs.Qxb6605282a

import Derived.Test.Qxb6605282aScanBase
namespace Go.Proofs.Qxb6605282a
open Go.RowKit

set_option maxRecDepth 1000000 in
set_option maxHeartbeats 4000000 in
theorem scan_one0 (bs b o c : Nat) (x : UInt8) (at0 off m : Int) (w : World) (hb : b < bs) (hp : w.cell? ⟨b, o, none⟩ = some (.int .u8 (x.toNat : Int))) (hc : 1 ≤ c) (hcm : c ≤ maxLen) (hbs : bs < w.heap.size)
    (hS : w.heap[bs]? = some (.cells (Sc [] false at0) 41 (0, 0))) (hm : w.cell? ⟨0, 0, none⟩ = some (.int .i64 m)) (h0 : 0 < bs) (ho1 : 0 ≤ off) (ho2 : off ≤ 1048576) :
    Calls Try.prog 23 #[.pointer (some ⟨bs, 0, none⟩), .slice (some ⟨b, o, none⟩) 1 c, .int .i64 off] w fun e w' => ScanPost bs w (scanR [] [x] off at0) e w' := by
  have e0 : ¬ bs = w.heap.size := by omega
  have hminc : min (1 : Int) 2 = 1 := by omega
  have hb2 : b < w.heap.size := by omega
  have e1 : ¬ b = w.heap.size := by omega
  have p0 := hp
  have hcc : ((c : Nat) : Int) ≤ 9223372036854775807 := by unfold maxLen at hcm; omega
  have c0 : w.cell? ⟨bs, 0, none⟩ = some (.int .u8 0) := cell_at hS 0
  have c1 : w.cell? ⟨bs, 1, none⟩ = some (.int .u8 0) := cell_at hS 1
  have c2 : w.cell? ⟨bs, 2, none⟩ = some (.int .i64 0) := cell_at hS 2
  have c3 : w.cell? ⟨bs, 3, none⟩ = some (.bool false) := cell_at hS 3
  have kc := const_at2 w
  have HP : Hid _ := hp
  clear hp
  have HS : Hid _ := hS
  have HM : Hid _ := hm
  clear hS hm
  go_enter Try.func23, Try.ntmps23
  go_wp2
  go_region
  go_wp2_with fail
  refine (idx_any ⟨w.heap.size, 0, none⟩ ⟨w.heap.size + 1, 0, none⟩ 1 4 3 [x] m _ rfl ?h1 ?h2 (by omega) (by omega) ?h3).mono ?h4
  case h1 =>
    refine two_edge _ _ _ [x] ?_
    intro i hi
    have : i = 0 := by simp at hi; omega
    rcases this with rfl
    rfl
  case h2 => exact two_mark _ _ _
  case h3 => exact (two_old _ _ _ 0 0 (by omega)).trans HM.out
  rintro e V1 ⟨rfl, q, hV⟩
  obtain ⟨hbl, hJ, _, hsz, hold⟩ := two_new hV (B := bs) (by omega)
  have hszl : w.heap.size + 2 ≤ V1.heap.size := by omega
  clear hV kc c0 c1 c2 c3 p0 hsz
  obtain ⟨I, hI⟩ : ∃ I, I = Lib.index [x] mk3 := ⟨_, rfl⟩
  rw [← hI]
  have hIE : I = Lib.index ([] ++ [x].take 2) mk3 := hI
  have hI1 : -1 ≤ I := by rw [hI]; exact Lib.index_ge _ _
  have hI2 : I ≤ 4 := by have := Lib.index_le [x] mk3; rw [← hI] at this; simp at this; omega
  have HI : Hid _ := hIE
  clear hI hIE
  have hS1 : V1.heap[bs]? = some (.cells (Sc [] false at0) 41 (0, 0)) := by rw [hold bs hbs]; exact HS.out
  have c0 : V1.cell? ⟨bs, 0, none⟩ = some (.int .u8 0) := cell_at hS1 0
  have c1 : V1.cell? ⟨bs, 1, none⟩ = some (.int .u8 0) := cell_at hS1 1
  have c2 : V1.cell? ⟨bs, 2, none⟩ = some (.int .i64 0) := cell_at hS1 2
  have c3 : V1.cell? ⟨bs, 3, none⟩ = some (.bool false) := cell_at hS1 3
  have c4 : V1.cell? ⟨bs, 4, none⟩ = some (.int .i64 at0) := cell_at hS1 4
  have fr : ∀ i, V1.frozen? ⟨bs, i, none⟩ = false := free_at hS1
  by_cases hge : 0 ≤ I
  · have HR : Hid (scanR [] [x] off at0 = ([], true, off + I)) := by
      show _ = _
      rw [scanR_edge HI.out hge]; simp
    have HB : Hid _ := hbl
    have HS1 : Hid _ := hS1
    clear hS1 hbl hold hJ
    go_wp2_with fail
    go_end0
    rw [HR.out]
    refine ⟨rfl, (HB.out.setCell (Nat.le_refl _) _).setCell (Nat.le_refl _) _, set34 HS1.out _ _, ?_⟩
    rw [set_size, set_size]; omega
  · have hgeN : I < 0 := by omega
    clear hge
    have hp1 : V1.cell? ⟨b, o, none⟩ = some (.int .u8 (x.toNat : Int)) := (World.cell?_of_block (w := w) (hold b hb2)).trans HP.out
    have HP1 : Hid _ := hp1
    clear hp1 HP
    have hm1 : V1.cell? ⟨0, 0, none⟩ = some (.int .i64 m) := (World.cell?_of_block (w := w) (hold 0 (by omega))).trans HM.out
    have HM1 : Hid _ := hm1
    have kc := const_at1 V1
    have HB : Hid _ := hbl
    have HS1 : Hid _ := hS1
    have HJ : Hid _ := hJ
    have hbV : b < V1.heap.size := by omega
    have hsV : bs < V1.heap.size := by omega
    clear hm1 hbl hS1 hJ hold HM HS fr
    go_wp2_with fail
    refine (idx_any ⟨b, o, none⟩ ⟨V1.heap.size, 0, none⟩ 1 c 3 [x] m _ rfl ?h5 ?h6 hc (by omega) ?h7).mono ?h8
    case h5 => exact fun i hi => by have e : i = 0 := by omega
                                    subst e; rw [addo]; exact (one_old _ _ b _ hbV).trans HP1.out
    case h6 => exact one_mark _ _
    case h7 => exact (one_old _ _ 0 0 (by omega)).trans HM1.out
    rintro e V2 ⟨rfl, q2, hV⟩
    obtain ⟨hbl, _, hsz2, hold⟩ := one_new hV (B := bs) (by omega)
    have hszl2 : V1.heap.size + 1 ≤ V2.heap.size := by omega
    clear hV kc hsz2
    obtain ⟨J, hJd⟩ : ∃ J, J = Lib.index [x] mk3 := ⟨_, rfl⟩
    rw [← hJd]
    have hJ1 : -1 ≤ J := by rw [hJd]; exact Lib.index_ge _ _
    have hJ2 : J ≤ 1048580 := by have := Lib.index_le [x] mk3; rw [← hJd] at this; simp at this; omega
    have HJd : Hid _ := hJd
    clear hJd
    have hS2 : V2.heap[bs]? = some (.cells (Sc [] false at0) 41 (0, 0)) := by rw [hold bs hsV]; exact HS1.out
    have c0 : V2.cell? ⟨bs, 0, none⟩ = some (.int .u8 0) := cell_at hS2 0
    have c1 : V2.cell? ⟨bs, 1, none⟩ = some (.int .u8 0) := cell_at hS2 1
    have c2 : V2.cell? ⟨bs, 2, none⟩ = some (.int .i64 0) := cell_at hS2 2
    have c3 : V2.cell? ⟨bs, 3, none⟩ = some (.bool false) := cell_at hS2 3
    have c4 : V2.cell? ⟨bs, 4, none⟩ = some (.int .i64 at0) := cell_at hS2 4
    have fr : ∀ i, V2.frozen? ⟨bs, i, none⟩ = false := free_at hS2
    have HB2 : Hid (Below bs w V2) := HB.out.trans (hbl.mono (Nat.le_refl _))
    by_cases hge2 : 0 ≤ J
    · have HR : Hid _ := scanR_in (off := off) (a := at0) HI.out hgeN HJd.out hge2
      have HS2 : Hid _ := hS2
      clear hS2 hbl hold
      go_wp2_with fail
      go_end0
      rw [HR.out]
      refine ⟨rfl, (HB2.out.setCell (Nat.le_refl _) _).setCell (Nat.le_refl _) _, set34 HS2.out _ _, ?_⟩
      rw [set_size, set_size]; omega
    · have HR : Hid (scanR ([] : List UInt8) [x] off at0 = ([x], false, at0)) := scanR_no HI.out hgeN HJd.out (by omega)
      have hwd : IntKind.i64.wrap (-1) = -1 := by decide
      have hmd : max (0 : Int) (-1) = 0 := by omega
      have HJ2 : Hid _ := (hold w.heap.size (by omega)).trans HJ.out
      have HS2 : Hid _ := hS2
      clear hS2 hbl hold
      go_wp2_with fail
      go_region_law (refine step_copy_splice rfl _ _ 23 23 rfl 5 Try.underlying23 (by kernel_rfl) (some ⟨bs, 0, none⟩) (some ⟨w.heap.size, 0, none⟩) 2 2 1 4 rfl rfl bs 0 (Sc [] false at0).toList 41 HS2.out [.int .u8 (x.toNat : Int)] rfl (fun _ => ⟨rfl, ⟨w.heap.size, 0, none⟩, rfl, copy_srcJ HJ2.out 0 _ rfl⟩) (by simp [Sc]) (by simp [Value.oneCell']) bs w HB2.out.drew (Nat.le_refl _) ?_; intro w3 hx hb3; have cc : w3.cell? ⟨bs, 2, none⟩ = some (.int .i64 0) := cell_at hx.out 2; have ff : w3.frozen? ⟨bs, 2, none⟩ = false := free_at hx.out 2)
      all_goals
        go_wp2_with fail
        go_end0
        rw [HR.out]
        refine ⟨rfl, hb3.setCell (Nat.le_refl _) _, (block_set hx.out 2 _).trans rfl, ?_⟩
        rw [set_size]
        have := hb3.size
        omega

set_option maxRecDepth 1000000 in
set_option maxHeartbeats 4000000 in
theorem scan_one1 (bs b o c : Nat) (k0 x : UInt8) (at0 off m : Int) (w : World) (hb : b < bs) (hp : w.cell? ⟨b, o, none⟩ = some (.int .u8 (x.toNat : Int))) (hc : 1 ≤ c) (hcm : c ≤ maxLen) (hbs : bs < w.heap.size)
    (hS : w.heap[bs]? = some (.cells (Sc [k0] false at0) 41 (0, 0))) (hm : w.cell? ⟨0, 0, none⟩ = some (.int .i64 m)) (h0 : 0 < bs) (ho1 : 0 ≤ off) (ho2 : off ≤ 1048576) :
    Calls Try.prog 23 #[.pointer (some ⟨bs, 0, none⟩), .slice (some ⟨b, o, none⟩) 1 c, .int .i64 off] w fun e w' => ScanPost bs w (scanR [k0] [x] off at0) e w' := by
  have e0 : ¬ bs = w.heap.size := by omega
  have hminc : min (1 : Int) 2 = 1 := by omega
  have hb2 : b < w.heap.size := by omega
  have e1 : ¬ b = w.heap.size := by omega
  have p0 := hp
  have hcc : ((c : Nat) : Int) ≤ 9223372036854775807 := by unfold maxLen at hcm; omega
  have c0 : w.cell? ⟨bs, 0, none⟩ = some (.int .u8 (k0.toNat : Int)) := cell_at hS 0
  have c1 : w.cell? ⟨bs, 1, none⟩ = some (.int .u8 0) := cell_at hS 1
  have c2 : w.cell? ⟨bs, 2, none⟩ = some (.int .i64 1) := cell_at hS 2
  have c3 : w.cell? ⟨bs, 3, none⟩ = some (.bool false) := cell_at hS 3
  have kc := const_at2 w
  have HP : Hid _ := hp
  clear hp
  have HS : Hid _ := hS
  have HM : Hid _ := hm
  clear hS hm
  go_enter Try.func23, Try.ntmps23
  go_wp2
  go_region
  go_wp2_with fail
  refine (idx_any ⟨w.heap.size, 0, none⟩ ⟨w.heap.size + 1, 0, none⟩ 2 4 3 [k0, x] m _ rfl ?h1 ?h2 (by omega) (by omega) ?h3).mono ?h4
  case h1 =>
    refine two_edge _ _ _ [k0, x] ?_
    intro i hi
    have : i = 0 ∨ i = 1 := by simp at hi; omega
    rcases this with rfl | rfl <;> rfl
  case h2 => exact two_mark _ _ _
  case h3 => exact (two_old _ _ _ 0 0 (by omega)).trans HM.out
  rintro e V1 ⟨rfl, q, hV⟩
  obtain ⟨hbl, hJ, _, hsz, hold⟩ := two_new hV (B := bs) (by omega)
  have hszl : w.heap.size + 2 ≤ V1.heap.size := by omega
  clear hV kc c0 c1 c2 c3 p0 hsz
  obtain ⟨I, hI⟩ : ∃ I, I = Lib.index [k0, x] mk3 := ⟨_, rfl⟩
  rw [← hI]
  have hIE : I = Lib.index ([k0] ++ [x].take 2) mk3 := hI
  have hI1 : -1 ≤ I := by rw [hI]; exact Lib.index_ge _ _
  have hI2 : I ≤ 4 := by have := Lib.index_le [k0, x] mk3; rw [← hI] at this; simp at this; omega
  have HI : Hid _ := hIE
  clear hI hIE
  have hS1 : V1.heap[bs]? = some (.cells (Sc [k0] false at0) 41 (0, 0)) := by rw [hold bs hbs]; exact HS.out
  have c0 : V1.cell? ⟨bs, 0, none⟩ = some (.int .u8 (k0.toNat : Int)) := cell_at hS1 0
  have c1 : V1.cell? ⟨bs, 1, none⟩ = some (.int .u8 0) := cell_at hS1 1
  have c2 : V1.cell? ⟨bs, 2, none⟩ = some (.int .i64 1) := cell_at hS1 2
  have c3 : V1.cell? ⟨bs, 3, none⟩ = some (.bool false) := cell_at hS1 3
  have c4 : V1.cell? ⟨bs, 4, none⟩ = some (.int .i64 at0) := cell_at hS1 4
  have fr : ∀ i, V1.frozen? ⟨bs, i, none⟩ = false := free_at hS1
  by_cases hge : 0 ≤ I
  · have HR : Hid _ := scanR_edge (off := off) (a := at0) HI.out hge
    have HB : Hid _ := hbl
    have HS1 : Hid _ := hS1
    clear hS1 hbl hold hJ
    go_wp2_with fail
    go_end0
    rw [HR.out]
    refine ⟨rfl, (HB.out.setCell (Nat.le_refl _) _).setCell (Nat.le_refl _) _, set34 HS1.out _ _, ?_⟩
    rw [set_size, set_size]; omega
  · have hgeN : I < 0 := by omega
    clear hge
    have hp1 : V1.cell? ⟨b, o, none⟩ = some (.int .u8 (x.toNat : Int)) := (World.cell?_of_block (w := w) (hold b hb2)).trans HP.out
    have HP1 : Hid _ := hp1
    clear hp1 HP
    have hm1 : V1.cell? ⟨0, 0, none⟩ = some (.int .i64 m) := (World.cell?_of_block (w := w) (hold 0 (by omega))).trans HM.out
    have HM1 : Hid _ := hm1
    have kc := const_at1 V1
    have HB : Hid _ := hbl
    have HS1 : Hid _ := hS1
    have HJ : Hid _ := hJ
    have hbV : b < V1.heap.size := by omega
    have hsV : bs < V1.heap.size := by omega
    clear hm1 hbl hS1 hJ hold HM HS fr
    go_wp2_with fail
    refine (idx_any ⟨b, o, none⟩ ⟨V1.heap.size, 0, none⟩ 1 c 3 [x] m _ rfl ?h5 ?h6 hc (by omega) ?h7).mono ?h8
    case h5 => exact fun i hi => by have e : i = 0 := by omega
                                    subst e; rw [addo]; exact (one_old _ _ b _ hbV).trans HP1.out
    case h6 => exact one_mark _ _
    case h7 => exact (one_old _ _ 0 0 (by omega)).trans HM1.out
    rintro e V2 ⟨rfl, q2, hV⟩
    obtain ⟨hbl, _, hsz2, hold⟩ := one_new hV (B := bs) (by omega)
    have hszl2 : V1.heap.size + 1 ≤ V2.heap.size := by omega
    clear hV kc hsz2
    obtain ⟨J, hJd⟩ : ∃ J, J = Lib.index [x] mk3 := ⟨_, rfl⟩
    rw [← hJd]
    have hJ1 : -1 ≤ J := by rw [hJd]; exact Lib.index_ge _ _
    have hJ2 : J ≤ 1048580 := by have := Lib.index_le [x] mk3; rw [← hJd] at this; simp at this; omega
    have HJd : Hid _ := hJd
    clear hJd
    have hS2 : V2.heap[bs]? = some (.cells (Sc [k0] false at0) 41 (0, 0)) := by rw [hold bs hsV]; exact HS1.out
    have c0 : V2.cell? ⟨bs, 0, none⟩ = some (.int .u8 (k0.toNat : Int)) := cell_at hS2 0
    have c1 : V2.cell? ⟨bs, 1, none⟩ = some (.int .u8 0) := cell_at hS2 1
    have c2 : V2.cell? ⟨bs, 2, none⟩ = some (.int .i64 1) := cell_at hS2 2
    have c3 : V2.cell? ⟨bs, 3, none⟩ = some (.bool false) := cell_at hS2 3
    have c4 : V2.cell? ⟨bs, 4, none⟩ = some (.int .i64 at0) := cell_at hS2 4
    have fr : ∀ i, V2.frozen? ⟨bs, i, none⟩ = false := free_at hS2
    have HB2 : Hid (Below bs w V2) := HB.out.trans (hbl.mono (Nat.le_refl _))
    by_cases hge2 : 0 ≤ J
    · have HR : Hid _ := scanR_in (off := off) (a := at0) HI.out hgeN HJd.out hge2
      have HS2 : Hid _ := hS2
      clear hS2 hbl hold
      go_wp2_with fail
      go_end0
      rw [HR.out]
      refine ⟨rfl, (HB2.out.setCell (Nat.le_refl _) _).setCell (Nat.le_refl _) _, set34 HS2.out _ _, ?_⟩
      rw [set_size, set_size]; omega
    · have HR : Hid (scanR [k0] [x] off at0 = ([k0, x], false, at0)) := scanR_no HI.out hgeN HJd.out (by omega)
      have hwd : IntKind.i64.wrap (0) = 0 := by decide
      have hmd : max (0 : Int) (0) = 0 := by omega
      have HJ2 : Hid _ := (hold w.heap.size (by omega)).trans HJ.out
      have HS2 : Hid _ := hS2
      clear hS2 hbl hold
      go_wp2_with fail
      go_region_law (refine step_copy_splice rfl _ _ 23 23 rfl 5 Try.underlying23 (by kernel_rfl) (some ⟨bs, 0, none⟩) (some ⟨w.heap.size, 0, none⟩) 2 2 2 4 rfl rfl bs 0 (Sc [k0] false at0).toList 41 HS2.out [.int .u8 (k0.toNat : Int), .int .u8 (x.toNat : Int)] rfl (fun _ => ⟨rfl, ⟨w.heap.size, 0, none⟩, rfl, copy_srcJ HJ2.out 0 _ rfl⟩) (by simp [Sc]) (by simp [Value.oneCell']) bs w HB2.out.drew (Nat.le_refl _) ?_; intro w3 hx hb3; have cc : w3.cell? ⟨bs, 2, none⟩ = some (.int .i64 1) := cell_at hx.out 2; have ff : w3.frozen? ⟨bs, 2, none⟩ = false := free_at hx.out 2)
      all_goals
        go_wp2_with fail
        go_end0
        rw [HR.out]
        refine ⟨rfl, hb3.setCell (Nat.le_refl _) _, (block_set hx.out 2 _).trans rfl, ?_⟩
        rw [set_size]
        have := hb3.size
        omega

set_option maxRecDepth 1000000 in
set_option maxHeartbeats 4000000 in
theorem scan_one2 (bs b o c : Nat) (k0 k1 x : UInt8) (at0 off m : Int) (w : World) (hb : b < bs) (hp : w.cell? ⟨b, o, none⟩ = some (.int .u8 (x.toNat : Int))) (hc : 1 ≤ c) (hcm : c ≤ maxLen) (hbs : bs < w.heap.size)
    (hS : w.heap[bs]? = some (.cells (Sc [k0, k1] false at0) 41 (0, 0))) (hm : w.cell? ⟨0, 0, none⟩ = some (.int .i64 m)) (h0 : 0 < bs) (ho1 : 0 ≤ off) (ho2 : off ≤ 1048576) :
    Calls Try.prog 23 #[.pointer (some ⟨bs, 0, none⟩), .slice (some ⟨b, o, none⟩) 1 c, .int .i64 off] w fun e w' => ScanPost bs w (scanR [k0, k1] [x] off at0) e w' := by
  have e0 : ¬ bs = w.heap.size := by omega
  have hminc : min (1 : Int) 2 = 1 := by omega
  have hb2 : b < w.heap.size := by omega
  have e1 : ¬ b = w.heap.size := by omega
  have p0 := hp
  have hcc : ((c : Nat) : Int) ≤ 9223372036854775807 := by unfold maxLen at hcm; omega
  have c0 : w.cell? ⟨bs, 0, none⟩ = some (.int .u8 (k0.toNat : Int)) := cell_at hS 0
  have c1 : w.cell? ⟨bs, 1, none⟩ = some (.int .u8 (k1.toNat : Int)) := cell_at hS 1
  have c2 : w.cell? ⟨bs, 2, none⟩ = some (.int .i64 2) := cell_at hS 2
  have c3 : w.cell? ⟨bs, 3, none⟩ = some (.bool false) := cell_at hS 3
  have kc := const_at2 w
  have HP : Hid _ := hp
  clear hp
  have HS : Hid _ := hS
  have HM : Hid _ := hm
  clear hS hm
  go_enter Try.func23, Try.ntmps23
  go_wp2
  go_region
  go_wp2_with fail
  refine (idx_any ⟨w.heap.size, 0, none⟩ ⟨w.heap.size + 1, 0, none⟩ 3 4 3 [k0, k1, x] m _ rfl ?h1 ?h2 (by omega) (by omega) ?h3).mono ?h4
  case h1 =>
    refine two_edge _ _ _ [k0, k1, x] ?_
    intro i hi
    have : i = 0 ∨ i = 1 ∨ i = 2 := by simp at hi; omega
    rcases this with rfl | rfl | rfl <;> rfl
  case h2 => exact two_mark _ _ _
  case h3 => exact (two_old _ _ _ 0 0 (by omega)).trans HM.out
  rintro e V1 ⟨rfl, q, hV⟩
  obtain ⟨hbl, hJ, _, hsz, hold⟩ := two_new hV (B := bs) (by omega)
  have hszl : w.heap.size + 2 ≤ V1.heap.size := by omega
  clear hV kc c0 c1 c2 c3 p0 hsz
  obtain ⟨I, hI⟩ : ∃ I, I = Lib.index [k0, k1, x] mk3 := ⟨_, rfl⟩
  rw [← hI]
  have hIE : I = Lib.index ([k0, k1] ++ [x].take 2) mk3 := hI
  have hI1 : -1 ≤ I := by rw [hI]; exact Lib.index_ge _ _
  have hI2 : I ≤ 4 := by have := Lib.index_le [k0, k1, x] mk3; rw [← hI] at this; simp at this; omega
  have HI : Hid _ := hIE
  clear hI hIE
  have hS1 : V1.heap[bs]? = some (.cells (Sc [k0, k1] false at0) 41 (0, 0)) := by rw [hold bs hbs]; exact HS.out
  have c0 : V1.cell? ⟨bs, 0, none⟩ = some (.int .u8 (k0.toNat : Int)) := cell_at hS1 0
  have c1 : V1.cell? ⟨bs, 1, none⟩ = some (.int .u8 (k1.toNat : Int)) := cell_at hS1 1
  have c2 : V1.cell? ⟨bs, 2, none⟩ = some (.int .i64 2) := cell_at hS1 2
  have c3 : V1.cell? ⟨bs, 3, none⟩ = some (.bool false) := cell_at hS1 3
  have c4 : V1.cell? ⟨bs, 4, none⟩ = some (.int .i64 at0) := cell_at hS1 4
  have fr : ∀ i, V1.frozen? ⟨bs, i, none⟩ = false := free_at hS1
  by_cases hge : 0 ≤ I
  · have HR : Hid _ := scanR_edge (off := off) (a := at0) HI.out hge
    have HB : Hid _ := hbl
    have HS1 : Hid _ := hS1
    clear hS1 hbl hold hJ
    go_wp2_with fail
    go_end0
    rw [HR.out]
    refine ⟨rfl, (HB.out.setCell (Nat.le_refl _) _).setCell (Nat.le_refl _) _, set34 HS1.out _ _, ?_⟩
    rw [set_size, set_size]; omega
  · have hgeN : I < 0 := by omega
    clear hge
    have hp1 : V1.cell? ⟨b, o, none⟩ = some (.int .u8 (x.toNat : Int)) := (World.cell?_of_block (w := w) (hold b hb2)).trans HP.out
    have HP1 : Hid _ := hp1
    clear hp1 HP
    have hm1 : V1.cell? ⟨0, 0, none⟩ = some (.int .i64 m) := (World.cell?_of_block (w := w) (hold 0 (by omega))).trans HM.out
    have HM1 : Hid _ := hm1
    have kc := const_at1 V1
    have HB : Hid _ := hbl
    have HS1 : Hid _ := hS1
    have HJ : Hid _ := hJ
    have hbV : b < V1.heap.size := by omega
    have hsV : bs < V1.heap.size := by omega
    clear hm1 hbl hS1 hJ hold HM HS fr
    go_wp2_with fail
    refine (idx_any ⟨b, o, none⟩ ⟨V1.heap.size, 0, none⟩ 1 c 3 [x] m _ rfl ?h5 ?h6 hc (by omega) ?h7).mono ?h8
    case h5 => exact fun i hi => by have e : i = 0 := by omega
                                    subst e; rw [addo]; exact (one_old _ _ b _ hbV).trans HP1.out
    case h6 => exact one_mark _ _
    case h7 => exact (one_old _ _ 0 0 (by omega)).trans HM1.out
    rintro e V2 ⟨rfl, q2, hV⟩
    obtain ⟨hbl, _, hsz2, hold⟩ := one_new hV (B := bs) (by omega)
    have hszl2 : V1.heap.size + 1 ≤ V2.heap.size := by omega
    clear hV kc hsz2
    obtain ⟨J, hJd⟩ : ∃ J, J = Lib.index [x] mk3 := ⟨_, rfl⟩
    rw [← hJd]
    have hJ1 : -1 ≤ J := by rw [hJd]; exact Lib.index_ge _ _
    have hJ2 : J ≤ 1048580 := by have := Lib.index_le [x] mk3; rw [← hJd] at this; simp at this; omega
    have HJd : Hid _ := hJd
    clear hJd
    have hS2 : V2.heap[bs]? = some (.cells (Sc [k0, k1] false at0) 41 (0, 0)) := by rw [hold bs hsV]; exact HS1.out
    have c0 : V2.cell? ⟨bs, 0, none⟩ = some (.int .u8 (k0.toNat : Int)) := cell_at hS2 0
    have c1 : V2.cell? ⟨bs, 1, none⟩ = some (.int .u8 (k1.toNat : Int)) := cell_at hS2 1
    have c2 : V2.cell? ⟨bs, 2, none⟩ = some (.int .i64 2) := cell_at hS2 2
    have c3 : V2.cell? ⟨bs, 3, none⟩ = some (.bool false) := cell_at hS2 3
    have c4 : V2.cell? ⟨bs, 4, none⟩ = some (.int .i64 at0) := cell_at hS2 4
    have fr : ∀ i, V2.frozen? ⟨bs, i, none⟩ = false := free_at hS2
    have HB2 : Hid (Below bs w V2) := HB.out.trans (hbl.mono (Nat.le_refl _))
    by_cases hge2 : 0 ≤ J
    · have HR : Hid _ := scanR_in (off := off) (a := at0) HI.out hgeN HJd.out hge2
      have HS2 : Hid _ := hS2
      clear hS2 hbl hold
      go_wp2_with fail
      go_end0
      rw [HR.out]
      refine ⟨rfl, (HB2.out.setCell (Nat.le_refl _) _).setCell (Nat.le_refl _) _, set34 HS2.out _ _, ?_⟩
      rw [set_size, set_size]; omega
    · have HR : Hid (scanR [k0, k1] [x] off at0 = ([k1, x], false, at0)) := scanR_no HI.out hgeN HJd.out (by omega)
      have hwd : IntKind.i64.wrap (1) = 1 := by decide
      have hmd : max (0 : Int) (1) = 1 := by omega
      have HJ2 : Hid _ := (hold w.heap.size (by omega)).trans HJ.out
      have HS2 : Hid _ := hS2
      clear hS2 hbl hold
      go_wp2_with fail
      go_region_law (refine step_copy_splice rfl _ _ 23 23 rfl 5 Try.underlying23 (by kernel_rfl) (some ⟨bs, 0, none⟩) (some ⟨w.heap.size, 1, none⟩) 2 2 2 3 rfl rfl bs 0 (Sc [k0, k1] false at0).toList 41 HS2.out [.int .u8 (k1.toNat : Int), .int .u8 (x.toNat : Int)] rfl (fun _ => ⟨rfl, ⟨w.heap.size, 1, none⟩, rfl, copy_srcJ HJ2.out 1 _ rfl⟩) (by simp [Sc]) (by simp [Value.oneCell']) bs w HB2.out.drew (Nat.le_refl _) ?_; intro w3 hx hb3; have cc : w3.cell? ⟨bs, 2, none⟩ = some (.int .i64 2) := cell_at hx.out 2; have ff : w3.frozen? ⟨bs, 2, none⟩ = false := free_at hx.out 2)
      all_goals
        go_wp2_with fail
        go_end0
        rw [HR.out]
        refine ⟨rfl, hb3.setCell (Nat.le_refl _) _, (block_set hx.out 2 _).trans rfl, ?_⟩
        rw [set_size]
        have := hb3.size
        omega

end Go.Proofs.Qxb6605282a

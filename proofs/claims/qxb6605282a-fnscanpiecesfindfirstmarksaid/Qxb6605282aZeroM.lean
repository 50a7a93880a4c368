import Derived.Test.Qxb6605282aWalkM
namespace Go.Proofs.Qxb6605282a
open Go.RowKit

theorem alloc_sz (w : World) (o : Obj) : (w.alloc o).heap.size = w.heap.size + 1 := by show (w.heap.push _).size = _; rw [Array.size_push]

set_option maxRecDepth 1000000 in
set_option maxHeartbeats 4000000 in
theorem bytes_zero (ap : Option Addr) (c : Nat) (w : World) : Calls Try.prog 12 #[.slice ap 0 c] w fun e w' => e = .returned (.bool true) ∧ w' = w := by
  go_enter Try.func12, Try.ntmps12
  go_wp2_with fail
  refine wp_loop_rounds 1 ?_
  rw [rounds_succ]
  go_wp2_with fail
  go_ret
  exact ⟨rfl, rfl⟩
set_option maxRecDepth 1000000 in
set_option maxHeartbeats 4000000 in
theorem walk_zero (ap : Option Addr) (c : Nat) (w : World) : Calls Try.prog 4 #[.slice ap 0 c] w fun e w' => e = .returned (.bool true) ∧ Below w.heap.size w w' := by
  obtain ⟨i0, hi, hz0, hz1, hz2⟩ := info_parts info5
  go_enter Try.func4, Try.ntmps4
  go_wp2_with fail
  refine (bytes_zero ap c w).mono ?_
  rintro e w' ⟨rfl, hw⟩
  rw [hw]
  clear hw
  go_wp2_with fail
  refine wp_loop_rounds 1 ?_
  rw [rounds_succ]
  go_wp2_with fail
  refine wp_loop_rounds 1 ?_
  rw [rounds_succ]
  go_wp2_with (at_make; refine wpList_make_full _ rfl _ _ 23 rfl w.heap.size 5 i0 (.int .u8 0) 1 Try.underlying23 hi hz0 hz1 _ _ _ _ 0 rfl rfl (by omega) (by omega) (by rw [hz2]; omega) (by unfold maxLen; omega) (by rw [alloc_sz]; omega) ?_; intro w1 hown hgrow; refine Hid.out ?_)
  unfold Hid
  have hb1 : Below w.heap.size w w1 := ((Below.refl _ _).alloc (Nat.le_refl _) _).grown hgrow (by rw [alloc_sz]; omega) (by simp)
  have hTb : w1.heap[w.heap.size]? = some (.cells #[.int .u8 0, .int .u8 0] 22 (0, 0)) := (((Below.refl (w.heap.size + 1) _).grown hgrow (by rw [alloc_sz]; omega) (by simp)).block w.heap.size (by omega)).trans (MapKept.heap_alloc w _).1
  have tc0 : w1.cell? ⟨w.heap.size, 0, none⟩ = some (.int .u8 0) := cell_at hTb 0
  have tc1 : w1.cell? ⟨w.heap.size, 1, none⟩ = some (.int .u8 0) := cell_at hTb 1
  have HK : Hid _ := kept0 (.slice (some ⟨w.heap.size + 1, 0, none⟩) 0 0) w1
  have HF : Hid _ := firstMark_any [] (w.heap.size + 1) 0 0 rfl (by omega) w1 (fun i hi => by omega)
  clear hgrow hown hTb
  go_wp2_with fail
  refine wp_loop_rounds 1 ?_
  rw [rounds_succ]
  go_wp2_with fail
  refine Calls.mono HF.out ?_
  rintro e w'' ⟨rfl, hw⟩
  rw [hw, show Lib.index [] mk3 = -1 from idx_no (by intro i h; exact absurd h.lt (by simp))]
  clear hw
  go_wp2_with fail
  refine Calls.mono HK.out ?_
  rintro e w3 ⟨rfl, hb3⟩
  go_wp2_with fail
  go_ret
  exact ⟨rfl, hb1.trans (hb3.mono hb1.size)⟩
end Go.Proofs.Qxb6605282a

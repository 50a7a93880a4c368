import Derived.Test.Qxb6605282aFunM
namespace Go.Proofs.Qxb6605282a
open Go.RowKit
set_option maxRecDepth 1000000 in
set_option maxHeartbeats 2000000 in
theorem kept2 (g n c r : Nat) (x y : Int) (w : World) (hg : g < w.heap.size) (hr : r + 1 < n) (hn : n ≤ 1048576) (c0 : w.cell? ⟨g, r, none⟩ = some (.int .u8 x)) (c1 : w.cell? ⟨g, r + 1, none⟩ = some (.int .u8 y)) :
    Calls Try.prog 14 #[.agg #[.int .u8 x, .int .u8 y], .int .i64 2, .slice (some ⟨g, 0, none⟩) n c, .int .i64 ((r : Int) + 2)] w fun e w' => e = .returned (.bool true) ∧ Below w.heap.size w w' := by
  have hg1 : ¬ g = w.heap.size := by omega
  have hr0 : (r : Int) < (n : Int) := by omega
  have hr1 : (r : Int) + 1 < (n : Int) := by omega
  have hb : (2 : Int) ≤ (r : Int) + 2 := by omega
  have hxx : (x != x) = false := by simp
  have hyy : (y != y) = false := by simp
  have hw0 : IntKind.i64.wrap (r : Int) = (r : Int) := by rw [IntKind.wrap_i64]; omega
  have hw1 : IntKind.i64.wrap ((r : Int) + 1) = (r : Int) + 1 := by rw [IntKind.wrap_i64]; omega
  by_cases h0 : r = 0
  · subst h0
    go_enter Try.func14, Try.ntmps14
    go_wp2
    refine wp_loop_rounds 3 ?_
    rw [rounds_succ]
    go_wp2
    go_region
    go_wp2
    rw [rounds_succ]
    go_wp2
    go_region
    go_wp2
    rw [rounds_succ]
    go_wp2
    go_ret
    exact ⟨rfl, (((Below.refl _ _).alloc (Nat.le_refl _) _).drew).drew⟩
  · have h2 : (2 : Int) < (r : Int) + 2 := by omega
    go_enter Try.func14, Try.ntmps14
    go_wp2
    refine wp_loop_rounds 3 ?_
    rw [rounds_succ]
    go_wp2
    go_region
    go_wp2
    rw [rounds_succ]
    go_wp2
    go_region
    go_wp2
    rw [rounds_succ]
    go_wp2
    go_ret
    exact ⟨rfl, (((Below.refl _ _).alloc (Nat.le_refl _) _).drew).drew⟩

set_option maxRecDepth 1000000 in
set_option maxHeartbeats 2000000 in
theorem kept1 (g n c : Nat) (x : Int) (w : World) (hg : g < w.heap.size) (hr : 0 < n) (hn : n ≤ 1048576) (c0 : w.cell? ⟨g, 0, none⟩ = some (.int .u8 x)) :
    Calls Try.prog 14 #[.agg #[.int .u8 x, .int .u8 0], .int .i64 1, .slice (some ⟨g, 0, none⟩) n c, .int .i64 1] w fun e w' => e = .returned (.bool true) ∧ Below w.heap.size w w' := by
  have hg1 : ¬ g = w.heap.size := by omega
  have hr0 : (0 : Int) < (n : Int) := by omega
  have hxx : (x != x) = false := by simp
  go_enter Try.func14, Try.ntmps14
  go_wp2
  refine wp_loop_rounds 3 ?_
  rw [rounds_succ]
  go_wp2
  go_region
  go_wp2
  rw [rounds_succ]
  go_wp2
  rw [rounds_succ]
  go_wp2
  go_ret
  exact ⟨rfl, ((Below.refl _ _).alloc (Nat.le_refl _) _).drew⟩

set_option maxRecDepth 1000000 in
set_option maxHeartbeats 2000000 in
theorem kept0 (v : Value) (w : World) :
    Calls Try.prog 14 #[.agg #[.int .u8 0, .int .u8 0], .int .i64 0, v, .int .i64 0] w fun e w' => e = .returned (.bool true) ∧ Below w.heap.size w w' := by
  go_enter Try.func14, Try.ntmps14
  go_wp2
  refine wp_loop_rounds 3 ?_
  rw [rounds_succ]
  go_wp2
  rw [rounds_succ]
  go_wp2
  rw [rounds_succ]
  go_wp2
  go_ret
  exact ⟨rfl, (Below.refl _ _).alloc (Nat.le_refl _) _⟩

theorem kept_any (S : List UInt8) (g n c n0 : Nat) (hn : S.length = n) (h0 : n0 ≤ n) (hs : n ≤ 1048576) (w : World) (hg : g < w.heap.size) (hc : ∀ i, i < n → w.cell? ⟨g, i, none⟩ = some (.int .u8 ((S.getD i 0).toNat : Int))) (K : List UInt8) (hK : K = last2 (S.take n0)) :
    Calls Try.prog 14 #[.agg #[kb K 0, kb K 1], .int .i64 (K.length : Int), .slice (some ⟨g, 0, none⟩) n c, .int .i64 (n0 : Int)] w fun e w' => e = .returned (.bool true) ∧ Below w.heap.size w w' := by
  have hl : (S.take n0).length = n0 := by rw [List.length_take]; omega
  have hkl := last2_len (S.take n0)
  rw [← hK, hl] at hkl
  have hkg : ∀ i, i < K.length → kb K i = .int .u8 ((S.getD (n0 - 2 + i) 0).toNat : Int) := by
    intro i hi
    unfold kb
    rw [List.getD_eq_getElem?_getD, List.getD_eq_getElem?_getD, hK, last2_get, hl, List.getElem?_take, if_pos (by omega)]
  match n0, h0, hl, hkl, hkg with
  | 0, _, _, hkl, _ =>
    have e : K = [] := List.length_eq_zero_iff.1 (by omega)
    rw [e]
    exact kept0 _ w
  | 1, h0, _, hkl, hkg =>
    have h1 : K.length = 1 := by omega
    have e0 := hkg 0 (by omega)
    have e1 : kb K 1 = .int .u8 0 := by
      unfold kb
      rw [List.getD_eq_getElem?_getD, List.getElem?_eq_none (by omega)]; rfl
    rw [e0, e1, h1]
    exact kept1 g n c _ w hg (by omega) hs (hc 0 (by omega))
  | r + 2, h0, _, hkl, hkg =>
    have h1 : K.length = 2 := by omega
    have e0 := hkg 0 (by omega)
    have e1 := hkg 1 (by omega)
    rw [show r + 2 - 2 + 0 = r from by omega] at e0
    rw [show r + 2 - 2 + 1 = r + 1 from by omega] at e1
    rw [e0, e1, h1]
    exact kept2 g n c r _ _ w hg (by omega) hs (hc r (by omega)) (hc (r + 1) (by omega))
end Go.Proofs.Qxb6605282a

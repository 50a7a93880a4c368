import Derived.Test.Qxb6605282aBaseM
import Derived.Laws.CopyOwn
import Derived.Deep.RegionLaw
namespace Go.Proofs.Qxb6605282a
open Go.RowKit

/-- What 'scan' leaves. -/
def ScanPost (bs : Nat) (w : World) (R : List UInt8 × Bool × Int) (e : Ending) (w' : World) : Prop :=
  e = .returned (.tuple #[]) ∧ Below bs w w' ∧ w'.heap[bs]? = some (.cells (Sc R.1 R.2.1 R.2.2) 41 (0, 0)) ∧ w.heap.size ≤ w'.heap.size

theorem scanR_edge {K p : List UInt8} {off a I : Int} (h : I = Lib.index (K ++ p.take 2) mk3) (h0 : 0 ≤ I) : scanR K p off a = (K, true, off - (K.length : Int) + I) := by
  unfold scanR; rw [← h, if_pos h0]
theorem scanR_in {K p : List UInt8} {off a I J : Int} (h : I = Lib.index (K ++ p.take 2) mk3) (h0 : I < 0) (h' : J = Lib.index p mk3) (h1 : 0 ≤ J) : scanR K p off a = (K, true, off + J) := by
  unfold scanR; rw [← h, if_neg (by omega), ← h', if_pos h1]
theorem scanR_no {K p : List UInt8} {off a I J : Int} (h : I = Lib.index (K ++ p.take 2) mk3) (h0 : I < 0) (h' : J = Lib.index p mk3) (h1 : J < 0) : scanR K p off a = (last2 (if p.length < 2 then K ++ p.take 2 else p), false, a) := by
  unfold scanR; rw [← h, if_neg (by omega), ← h', if_neg (by omega)]

theorem set34 {V : World} {bs : Nat} {K : List UInt8} {f : Bool} {a : Int} (h : V.heap[bs]? = some (.cells (Sc K f a) 41 (0, 0))) (f' : Bool) (a' : Int) :
    ((V.setCell ⟨bs, 3, none⟩ (.bool f')).setCell ⟨bs, 4, none⟩ (.int .i64 a')).heap[bs]? = some (.cells (Sc K f' a') 41 (0, 0)) := by
  rw [block_set (block_set h 3 _) 4 _]; rfl
theorem set_size (V : World) (a : Addr) (v : Value) : (V.setCell a v).heap.size = V.heap.size := by simp [World.setCell]
theorem copy_src {V : World} {b oo : Nat} {u v : Value} (h0 : V.cell? ⟨b, oo, none⟩ = some u) (h1 : V.cell? ⟨b, oo + 1, none⟩ = some v) : ∀ j z, [u, v][j]? = some z → V.drew.cell? ((⟨b, oo, none⟩ : Addr).add j) = some z := by
  intro j z hj
  rw [addo]
  match j, hj with
  | 0, hj => simp at hj; subst hj; exact h0
  | 1, hj => simp at hj; subst hj; exact h1
  | j + 2, hj => simp at hj
theorem copy_srcJ {V : World} {jb : Nat} {A : Array Value} (h : V.heap[jb]? = some (.cells A 45 (0, 0))) (off : Nat) (cs : List Value) (hcs : cs = (A.toList.drop off).take cs.length) : ∀ j z, cs[j]? = some z → V.drew.cell? ((⟨jb, off, none⟩ : Addr).add j) = some z := by
  intro j z hj
  rw [addo]
  have hc : V.drew.cell? ⟨jb, off + j, none⟩ = A[off + j]? := cell_at h (off + j)
  rw [hc]
  rw [hcs, List.getElem?_take] at hj
  split at hj
  · rw [List.getElem?_drop, Array.getElem?_toList] at hj
    exact hj
  · simp at hj
theorem last2_two (x y : UInt8) (P : List UInt8) (r : Nat) (hP : P.length = r) : last2 (x :: y :: P) = [(x :: y :: P).getD r 0, (x :: y :: P).getD (r + 1) 0] := by
  apply List.ext_getElem?
  intro i
  rw [last2_get]
  have hl : (x :: y :: P).length = r + 2 := by simp [hP]
  rw [hl, show r + 2 - 2 + i = r + i from by omega]
  match i with
  | 0 =>
    rw [Nat.add_zero, List.getD_eq_getElem?_getD]
    obtain ⟨u, hu⟩ : ∃ u, (x :: y :: P)[r]? = some u := ⟨_, List.getElem?_eq_getElem (by omega)⟩
    rw [hu]; rfl
  | 1 =>
    rw [List.getD_eq_getElem?_getD, List.getD_eq_getElem?_getD]
    obtain ⟨u, hu⟩ : ∃ u, (x :: y :: P)[r + 1]? = some u := ⟨_, List.getElem?_eq_getElem (by omega)⟩
    rw [hu]; rfl
  | i + 2 =>
    rw [List.getElem?_eq_none (by omega)]; rfl
end Go.Proofs.Qxb6605282a

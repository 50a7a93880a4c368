import Derived.Test.Qxb6605282aShelf
import Derived.Test.Qxb6605282aPlainM
import Derived.WalkKit
import Derived.WalkSpells
import Derived.RegionTactic
import Derived.BigRegion
import Derived.Deep.QuietTactic
import Derived.BigQuiet
import Derived.Lib.SlBytesConst
namespace Go.Proofs.Qxb6605282a
open Go.RowKit

/-- The cells of a markScan: what is kept, whether a mark was found, where. -/
def kb (K : List UInt8) (i : Nat) : Value := .int .u8 ((K.getD i 0).toNat : Int)
def Sc (K : List UInt8) (f : Bool) (a : Int) : Array Value := #[kb K 0, kb K 1, .int .i64 (K.length : Int), .bool f, .int .i64 a]

theorem cell_at {w : World} {b : Nat} {cs : Array Value} {t : TypeId} (h : w.heap[b]? = some (.cells cs t (0, 0))) (i : Nat) : w.cell? ⟨b, i, none⟩ = cs[i]? := by
  simp [World.cell?, h]
theorem cell_any {w : World} {b : Nat} {cs : Array Value} {t : TypeId} {fz : Nat × Nat} (h : w.heap[b]? = some (.cells cs t fz)) (i : Nat) : w.cell? ⟨b, i, none⟩ = cs[i]? := by
  simp [World.cell?, h]
theorem free_at {w : World} {b : Nat} {cs : Array Value} {t : TypeId} (h : w.heap[b]? = some (.cells cs t (0, 0))) (i : Nat) : w.frozen? ⟨b, i, none⟩ = false := by
  simp [World.frozen?, h]
theorem block_set {w : World} {b : Nat} {cs : Array Value} {t : TypeId} (h : w.heap[b]? = some (.cells cs t (0, 0))) (i : Nat) (v : Value) :
    (w.setCell ⟨b, i, none⟩ v).heap[b]? = some (.cells (cs.setIfInBounds i v) t (0, 0)) := by
  simp [World.setCell, Array.getElem?_modify, h]
theorem const_at (w : World) (C : Array Value) (n c g : Nat) (hg : g = w.heap.size) :
    (convert 23 23 (.slice (some ⟨g, 0, none⟩) n c)).run Try.prog (w.alloc (.cells C 5)) = .ok (.slice (some ⟨g, 0, none⟩) n c) (w.alloc (.cells C 5 (C.size, C.size + 1))) := by
  subst hg
  exact Lib.run_convert_bytes_const (P := Try.prog) w 23 5 C n c Try.underlying23 Try.underlying5
theorem const_at1 (w : World) (C : Array Value) (n c : Nat) :
    (convert 23 23 (.slice (some ⟨w.heap.size, 0, none⟩) n c)).run Try.prog (w.alloc (.cells C 5)) = .ok (.slice (some ⟨w.heap.size, 0, none⟩) n c) (w.alloc (.cells C 5 (C.size, C.size + 1))) := const_at w C n c _ rfl
theorem const_at2 (w : World) (X : Obj) (C : Array Value) (n c : Nat) :
    (convert 23 23 (.slice (some ⟨w.heap.size + 1, 0, none⟩) n c)).run Try.prog ((w.alloc X).alloc (.cells C 5)).drew = .ok (.slice (some ⟨w.heap.size + 1, 0, none⟩) n c) ((w.alloc X).alloc (.cells C 5 (C.size, C.size + 1))).drew :=
  const_at (w.alloc X).drew C n c (w.heap.size + 1) (by simp)

def nums (l : List UInt8) : List Int := l.map (fun u => (u.toNat : Int))
theorem bytesOf_nums (l : List UInt8) : Lib.bytesOf (nums l) = l := by
  unfold Lib.bytesOf nums
  rw [List.map_map]
  conv => rhs; rw [← List.map_id l]
  apply List.map_congr_left
  intro u _
  simp
theorem nums_get (l : List UInt8) (i : Nat) : (nums l).getD i 0 = ((l.getD i 0).toNat : Int) := by
  unfold nums
  simp only [List.getD_eq_getElem?_getD, List.getElem?_map]
  cases l[i]? <;> rfl
theorem nums_bd (l : List UInt8) : ∀ x ∈ nums l, 0 ≤ x ∧ x < 256 := by
  intro x hx
  obtain ⟨u, _, rfl⟩ := List.mem_map.1 hx
  have := u.toNat_lt
  omega
/-- 'bytes.Index' at the mark. -/
theorem idx_any (a1 a2 : Addr) (n c k2 : Nat) (E : List UInt8) (m : Int) (w : World) (hn : E.length = n) (hc1 : ∀ i, i < n → w.cell? (a1.add i) = some (.int .u8 ((E.getD i 0).toNat : Int)))
    (hc2 : ∀ i, i < 3 → w.cell? (a2.add i) = some (.int .u8 ((mk3.getD i 0).toNat : Int))) (hcap : n ≤ c) (hs : n ≤ 2000000) (hm : w.cell? ⟨0, 0, none⟩ = some (.int .i64 m)) :
    Calls Try.prog 27 #[.slice (some a1) n c, .slice (some a2) 3 k2] w fun e w' => e = .returned (.int .i64 (Lib.index E mk3)) ∧ ∃ q, w' = w.drewN q := by
  have h := Try.bytes_Index_at a1 a2 n c 3 k2 (nums E) (nums mk3) m w (by simp [nums, hn]) rfl (nums_bd _) (nums_bd _) (fun i hi => by rw [nums_get]; exact hc1 i hi) (fun i hi => by rw [nums_get]; exact hc2 i hi) hcap (by omega) (by omega) hm
  rw [bytesOf_nums, bytesOf_nums] at h
  exact h
theorem idx_nil (a2 : Addr) (k2 : Nat) (w : World) :
    Calls Try.prog 27 #[.slice none 0 0, .slice (some a2) 3 k2] w fun e w' => e = .returned (.int .i64 (Lib.index [] mk3)) ∧ ∃ q, w' = w.drewN q := by
  have h := Try.bytes_Index_nil (some a2) 3 k2 w (by omega) (fun e => by omega)
  exact h.mono fun e w' ⟨he, hw⟩ => ⟨he, 0, hw⟩
theorem add0 (b i : Nat) : (⟨b, 0, none⟩ : Addr).add i = ⟨b, i, none⟩ := by unfold Addr.add; split <;> simp_all
theorem addo (b o i : Nat) : (⟨b, o, none⟩ : Addr).add i = ⟨b, o + i, none⟩ := by unfold Addr.add; split <;> simp_all

/-- Behind two new blocks and some draws. -/
theorem two_new {w V : World} {X Y : Obj} {q : Nat} (h : V = (((w.alloc X).alloc Y).drew).drewN q) {B : Nat} (hB : B ≤ w.heap.size) : Below B w V ∧ V.heap[w.heap.size]? = some X ∧ V.heap[w.heap.size + 1]? = some Y ∧ V.heap.size = w.heap.size + 2 ∧ (∀ k, k < w.heap.size → V.heap[k]? = w.heap[k]?) := by
  have hh : V.heap = (w.heap.push X).push Y := by rw [h]; rfl
  have hk : ∀ k, k < w.heap.size → V.heap[k]? = w.heap[k]? := fun k hk => by
    rw [hh, Array.getElem?_push, if_neg (by simp; omega), Array.getElem?_push, if_neg (by omega)]
  refine ⟨⟨by rw [h]; rfl, by rw [h]; rfl, by rw [h]; rfl, by rw [hh]; simp; omega, fun k hk' => hk k (by omega)⟩, ?_, ?_, by rw [hh]; simp, hk⟩
  · rw [hh, Array.getElem?_push, if_neg (by simp), Array.getElem?_push, if_pos rfl]
  · rw [hh, Array.getElem?_push, if_pos (by simp)]
theorem one_new {w V : World} {Y : Obj} {q : Nat} (h : V = (w.alloc Y).drewN q) {B : Nat} (hB : B ≤ w.heap.size) : Below B w V ∧ V.heap[w.heap.size]? = some Y ∧ V.heap.size = w.heap.size + 1 ∧ (∀ k, k < w.heap.size → V.heap[k]? = w.heap[k]?) := by
  have hh : V.heap = w.heap.push Y := by rw [h]; rfl
  have hk : ∀ k, k < w.heap.size → V.heap[k]? = w.heap[k]? := fun k hk => by
    rw [hh, Array.getElem?_push, if_neg (by omega)]
  refine ⟨⟨by rw [h]; rfl, by rw [h]; rfl, by rw [h]; rfl, by rw [hh]; simp, fun k hk' => hk k (by omega)⟩, ?_, by rw [hh]; simp, hk⟩
  rw [hh, Array.getElem?_push, if_pos rfl]

/-- The separator's cells, and an old cell, behind the two new blocks. -/
theorem two_mark (w : World) (X : Obj) (fz : Nat × Nat) : ∀ i, i < 3 → (((w.alloc X).alloc (.cells #[.int .u8 239, .int .u8 187, .int .u8 191] 5 fz)).drew).cell? ((⟨w.heap.size + 1, 0, none⟩ : Addr).add i) = some (.int .u8 ((mk3.getD i 0).toNat : Int)) := by
  intro i hi
  have h := (two_new (w := w) (V := ((w.alloc X).alloc (.cells #[.int .u8 239, .int .u8 187, .int .u8 191] 5 fz)).drew) (q := 0) rfl (Nat.zero_le _)).2.2.1
  rw [add0, cell_any h]
  have : i = 0 ∨ i = 1 ∨ i = 2 := by omega
  rcases this with rfl | rfl | rfl <;> rfl
theorem two_old (w : World) (X Y : Obj) (b i : Nat) (hb : b < w.heap.size) : (((w.alloc X).alloc Y).drew).cell? ⟨b, i, none⟩ = w.cell? ⟨b, i, none⟩ :=
  World.cell?_of_block (w := w) ((two_new (q := 0) rfl (Nat.zero_le _)).2.2.2.2 b hb)
theorem one_mark (w : World) (fz : Nat × Nat) : ∀ i, i < 3 → (w.alloc (.cells #[.int .u8 239, .int .u8 187, .int .u8 191] 5 fz)).cell? ((⟨w.heap.size, 0, none⟩ : Addr).add i) = some (.int .u8 ((mk3.getD i 0).toNat : Int)) := by
  intro i hi
  have h := (one_new (w := w) (V := w.alloc (.cells #[.int .u8 239, .int .u8 187, .int .u8 191] 5 fz)) (q := 0) rfl (Nat.zero_le _)).2.1
  rw [add0, cell_any h]
  have : i = 0 ∨ i = 1 ∨ i = 2 := by omega
  rcases this with rfl | rfl | rfl <;> rfl
theorem one_old (w : World) (Y : Obj) (b i : Nat) (hb : b < w.heap.size) : (w.alloc Y).cell? ⟨b, i, none⟩ = w.cell? ⟨b, i, none⟩ :=
  World.cell?_of_block (w := w) ((one_new (q := 0) rfl (Nat.zero_le _)).2.2.2 b hb)
/-- The edge's cells: the first of the four of 'joint'. -/
theorem two_edge (w : World) (J : Array Value) (Y : Obj) (E : List UInt8) (hJ : ∀ i, i < E.length → J[i]? = some (.int .u8 ((E.getD i 0).toNat : Int))) : ∀ i, i < E.length → (((w.alloc (.cells J 45)).alloc Y).drew).cell? ((⟨w.heap.size, 0, none⟩ : Addr).add i) = some (.int .u8 ((E.getD i 0).toNat : Int)) := by
  intro i hi
  have h := (two_new (w := w) (V := ((w.alloc (.cells J 45)).alloc Y).drew) (q := 0) rfl (Nat.zero_le _)).2.1
  rw [add0, cell_any h]
  exact hJ i hi
end Go.Proofs.Qxb6605282a

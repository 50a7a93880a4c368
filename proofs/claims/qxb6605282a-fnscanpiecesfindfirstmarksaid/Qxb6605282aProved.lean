/- THE ROW OVER THE WALK: the guide's template (proof-skeleton.mjs, a law with a slice) at this function; the pieces are opened at every index; the world's shape is kept (internal/bytealg.MaxLen). -/
import Derived.Test.Qxb6605282aRows
import Derived.Test.Qxb6605282aChecked
import Derived.WalkKit
import Derived.ProofKit
import Derived.ShutString
import Derived.ChangeOld
import Derived.Below
import Derived.Carry
import Derived.Deep.Slices
import Derived.HandedShaped
import Derived.Test.Qxb6605282aZeroM
namespace Go.Proofs.Qxb6605282a.fnScanPiecesFindFirstMark
open Go.ChangeShapes Go.WideShapes Go.ChangeAt Go.RowKit

theorem own : ownKnob Try.prog.godebug = none := by kernel_rfl
theorem laidOut : laidOutB Try.prog = true := by kernel_rfl

theorem cell_lt {w : World} {a : Addr} {v : Value} (h : w.cell? a = some v) : a.block < w.heap.size := by
  apply Classical.byContradiction
  intro hn
  unfold World.cell? at h
  rw [Array.getElem?_eq_none (by omega)] at h
  simp at h
theorem cell_spot {w : World} {a : Addr} {v : Value} (h : w.cell? a = some v) : a = ⟨a.block, a.off, none⟩ := by
  obtain ⟨b, o, s⟩ := a
  cases s with
  | none => rfl
  | some s =>
    unfold World.cell? at h
    split at h <;> simp at h
theorem add_at (b o i : Nat) : (⟨b, o, none⟩ : Addr).add i = ⟨b, o + i, none⟩ := by
  unfold Addr.add
  split
  · subst_vars; rfl
  · rfl

/-- A slice of bytes that came in, read: what the walk is told of it. -/
theorem piece {H : Type} {enc : TypeId × Value → H} {W : World} {n : Nat} {v : Value} {x : DataW H × List MemPlace} (h : DataW.trod enc Try.prog W 0 (fun _ => true) true n 23 [v] = some x) :
    ∃ ap c l, v = .slice ap l.length c ∧ HB W W.heap.size (.slice ap l.length c) l := by
  rcases open_ints Try.underlying23 Try.underlying5 (by kernel_rfl) h with ⟨hcs, _⟩ | ⟨a, len, cap, zs, hcs, _, hl, hm, hz, _, hcell, hwz⟩
  · simp only [List.cons.injEq, and_true] at hcs
    exact ⟨none, 0, [], hcs, none, 0, rfl, Nat.le_refl _, Nat.zero_le _, .inl ⟨rfl, rfl, rfl⟩⟩
  · simp only [List.cons.injEq, and_true] at hcs
    rw [if_pos rfl] at hz
    have hlen : ((zs.take len).map fun z => z.toNat.toUInt8).length = len := by rw [List.length_map, List.length_take]; omega
    refine ⟨some a, cap, (zs.take len).map fun z => z.toNat.toUInt8, by rw [hlen]; exact hcs, some a, cap, rfl, by rw [hlen]; exact hl, hm, .inr ⟨a, rfl, ?_⟩⟩
    by_cases h0 : len = 0
    · exact .inl (by rw [hlen]; exact h0)
    · have hc0 := hcell 0 (by omega)
      rw [show a.add 0 = a from rfl] at hc0
      refine .inr ⟨a.block, a.off, cell_spot hc0, cell_lt hc0, fun i hi => ?_⟩
      rw [hlen] at hi
      have hci := hcell i (by omega)
      rw [cell_spot hc0, add_at] at hci
      rw [hci]
      have hi2 : i < zs.length := by omega
      have hw := hwz (zs.getD i 0) (by rw [List.getD_eq_getElem?_getD, List.getElem?_eq_getElem hi2]; exact List.getElem_mem hi2)
      have hb : 0 ≤ zs.getD i 0 ∧ zs.getD i 0 < 256 := by
        have h2 : (decide (IntKind.u8.min ≤ zs.getD i 0) && decide (zs.getD i 0 ≤ IntKind.u8.max)) = true := hw
        rw [Bool.and_eq_true, decide_eq_true_eq, decide_eq_true_eq, show IntKind.u8.min = 0 from rfl, show IntKind.u8.max = 255 from rfl] at h2
        omega
      have e : ((zs.take len).map fun z => z.toNat.toUInt8).getD i 0 = (zs.getD i 0).toNat.toUInt8 := by
        rw [List.getD_eq_getElem?_getD, List.getElem?_map, List.getElem?_take, if_pos hi, List.getD_eq_getElem?_getD, List.getElem?_eq_getElem hi2]
        rfl
      rw [e]
      congr 2
      have : (zs.getD i 0).toNat.toUInt8.toNat = (zs.getD i 0).toNat := by
        show (UInt8.ofNat _).toNat = _
        rw [UInt8.toNat_ofNat']
        omega
      omega

/-- The slice of slices that came in, read: what the walk is told of it. -/
theorem pieces {H : Type} {enc : TypeId × Value → H} {W : World} {n : Nat} {v : Value} {x : DataW H × List MemPlace} (h : DataW.trod enc Try.prog W 0 (fun _ => true) true n 29 [v] = some x) :
    (∃ ap c, v = .slice ap 0 c) ∨ ∃ b o m c ls, v = .slice (some ⟨b, o, none⟩) m c ∧ 0 < m ∧ m ≤ maxLen ∧ List.length ls = m ∧ PS W W.heap.size b o ls := by
  rcases Deep.open_slice1 Try.underlying29 (by kernel_rfl) h with ⟨hcs, _⟩ | ⟨a, len, cap, m, n', V, D, Pl, hcs, _, hl, hm, hmm, _, hx⟩
  · simp only [List.cons.injEq, and_true] at hcs
    exact .inl ⟨none, 0, hcs⟩
  · simp only [List.cons.injEq, and_true] at hcs
    rw [if_pos rfl] at hmm
    by_cases h0 : len = 0
    · exact .inl ⟨some a, cap, by rw [hcs, h0]⟩
    · have hc0 := (hx 0 (by omega)).1
      rw [show a.add 0 = a from rfl] at hc0
      have hall : ∀ i, i < len → ∃ l : List UInt8, ∃ ap c, W.cell? ⟨a.block, a.off + i, none⟩ = some (.slice ap l.length c) ∧ HB W W.heap.size (.slice ap l.length c) l := fun i hi => by
        obtain ⟨h1, h2⟩ := hx i (by omega)
        obtain ⟨ap, c, l, hv, hb⟩ := piece h2
        rw [cell_spot hc0, add_at, hv] at h1
        exact ⟨l, ap, c, h1, hb⟩
      obtain ⟨f, hf⟩ := Deep.choose_lt hall
      refine .inr ⟨a.block, a.off, len, cap, (List.range len).map f, by rw [hcs, ← cell_spot hc0], by omega, by omega, by simp, cell_lt hc0, fun k hk => ?_⟩
      have hk2 : k < len := by simpa using hk
      have e : pc ((List.range len).map f) k = f k := by
        unfold pc
        rw [List.getD_eq_getElem?_getD, List.getElem?_map, List.getElem?_range hk2]
        rfl
      rw [e]
      exact hf k hk2

/-- The walk, whatever came in. -/
theorem walk {H : Type} {enc : TypeId × Value → H} {W : World} {n : Nat} {v : Value} {x : DataW H × List MemPlace} (h : DataW.trod enc Try.prog W 0 (fun _ => true) true n 29 [v] = some x) (hsh : W.ShapedOpen Try.prog) :
    Calls Try.prog 4 #[v] W fun e w' => e = .returned (.bool true) ∧ Below W.heap.size W w' := by
  rcases pieces h with ⟨ap, c, rfl⟩ | ⟨b, o, m, c, ls, rfl, h0, hm, hls, hP⟩
  · exact walk_zero ap c W
  · obtain ⟨mx, hmx⟩ := Try.laysM185.s1_3 W hsh
    exact walk_pos ls b o c m hls h0 mx W hP hmx (cell_lt (a := ⟨0, 0, none⟩) hmx) hm

set_option maxRecDepth 100000 in
theorem lifted (os : Os) (started : os.Started) (H : Type) (enc : TypeId × Value → H) :
    ReturnsInHanded {} Try.checked os 4 .any (Rows.fnScanPiecesFindFirstMarkSpec.pre6 enc Try.prog Try.f4 Rows.fnScanPiecesFindFirstMarkRow.domain false) (Rows.fnScanPiecesFindFirstMarkSpec.post enc Try.prog Try.f4 false true false false) := by
  refine returnsInHanded_of_change_shaped (C := Try.checked) own started (by kernel_rfl) Try.func4
    (ChangeSpec.witness6 (enc := enc) (C := Try.checked) false ⟨#[], #[.slice none 0 0], []⟩ 8 (by kernel_rfl) (by kernel_rfl) (by kernel_rfl) (by kernel_rfl)) ?_
  intro W base args ds gs before hval0 hW hcnd _ hsh _
  have hval : ∀ (j : Nat) t v, Try.f4.params[j]? = some t → args[j]? = some v → Value.okWide Try.prog W .any base t v := hval0
  have hW' := hW
  obtain ⟨p, q, hA0, hV, rfl, hfz, hnd⟩ := hW
  have hA : DataW.TrodAll enc Try.prog W 0 (fun _ => true) true Try.f4.params.toList args.toList ds p := hA0
  rw [Try.params4] at hA hval
  obtain ⟨v0, vs0, d0, ds0, p0, q0, hargs, rfl, rfl, h0, r0⟩ := trodAll_cons hA
  obtain ⟨rfl, rfl, rfl⟩ := trodAll_nil r0
  obtain rfl : args = #[v0] := by cases args; simp_all
  obtain ⟨rfl, rfl⟩ := trodVars_none hV
  obtain ⟨a0, len0, cap0, rfl⟩ := okWide_slice Try.underlying29 (hval 0 29 v0 rfl rfl)
  have k0 := h0
  have lt0 : ∀ x ∈ p0, x.block < W.heap.size := by obtain ⟨m, hm⟩ := k0; exact DataW.trod_lt m _ _ _ hm
  clear hA0 hval0
  obtain ⟨fuel, hf⟩ := h0
  refine (walk hf hsh).mono fun e W' ⟨he, bel⟩ => ?_
  subst he
  exact ⟨_, rfl, _, _, _, [], _, [], hW', trodAll_mk1 (shut_bool Try.underlying4 _), trodAll_mk1 (Below.trod laidOut (by kernel_rfl) (of_decide_eq_true (by kernel_rfl)) k0 bel lt0), rfl, bel.frame _, fun h => by cases h⟩

theorem over : Rows.fnScanPiecesFindFirstMarkRow.holds Try.pinned (OpenSpec.ofChange Rows.fnScanPiecesFindFirstMarkSpec) :=
  OpenClaim.holds_of_wide 4 Try.f4 rfl rfl rfl rfl rfl rfl rfl ⟨rfl, rfl, rfl, rfl, rfl⟩ rfl rfl rfl rfl rfl (by kernel_rfl) Try.func4 (by kernel_rfl)
    (of_decide_eq_true (by kernel_rfl)) (by unfold Func.isWrapper; first | (rw [if_pos (by decide +kernel)]; kernel_rfl) | (rw [if_neg (by decide +kernel)]; exact ⟨rfl, rfl⟩))
    (fun os started H enc _ => lifted os started H enc)

end Go.Proofs.Qxb6605282a.fnScanPiecesFindFirstMark

namespace Go.Proofs.Qxb6605282a
theorem scan_law : Rows.FnScanPiecesFindFirstMarkSaid := fnScanPiecesFindFirstMark.over
end Go.Proofs.Qxb6605282a

import Derived.Test.Qxb6605282aScanM
import Derived.LoopN
namespace Go.Proofs.Qxb6605282a
open Go.RowKit

theorem ret_bool {a b : Bool} (h : a = b) : Ending.returned (.bool a) = .returned (.bool b) := by rw [h]
theorem ret_int {k : IntKind} {a b : Int} (h : a = b) : Ending.returned (.int k a) = .returned (.int k b) := by rw [h]

/-- The pieces joined, as far as piece k; how long that is. -/
def joined (ls : List (List UInt8)) (k : Nat) : List UInt8 := (ls.take k).flatten
def st (ls : List (List UInt8)) (k : Nat) : Nat := (joined ls k).length
def pc (ls : List (List UInt8)) (k : Nat) : List UInt8 := ls.getD k []
theorem joined_zero (ls : List (List UInt8)) : joined ls 0 = [] := rfl
theorem joined_succ (ls : List (List UInt8)) (k : Nat) (h : k < ls.length) : joined ls (k + 1) = joined ls k ++ pc ls k := by
  unfold joined pc
  rw [List.take_succ_eq_append_getElem h, List.flatten_append, List.getD_eq_getElem?_getD, List.getElem?_eq_getElem h]
  simp
theorem joined_all (ls : List (List UInt8)) : joined ls ls.length = ls.flatten := by unfold joined; rw [List.take_length]
theorem st_zero (ls : List (List UInt8)) : st ls 0 = 0 := rfl
theorem st_succ (ls : List (List UInt8)) (k : Nat) (h : k < ls.length) : st ls (k + 1) = st ls k + (pc ls k).length := by
  unfold st; rw [joined_succ ls k h, List.length_append]
theorem st_mono (ls : List (List UInt8)) (j k : Nat) (h : j ≤ k) (hk : k ≤ ls.length) : st ls j ≤ st ls k := by
  induction k with
  | zero => obtain rfl : j = 0 := by omega
            exact Nat.le_refl _
  | succ k ih =>
    by_cases e : j = k + 1
    · rw [e]; exact Nat.le_refl _
    · rw [st_succ ls k (by omega)]
      have := ih (by omega) (by omega)
      omega

/-- The slice of slices at ⟨b, o⟩ holds the pieces ls, below block number B. -/
def PS (w : World) (B b o : Nat) (ls : List (List UInt8)) : Prop :=
  b < B ∧ ∀ k, k < ls.length → ∃ ap c, w.cell? ⟨b, o + k, none⟩ = some (.slice ap (pc ls k).length c) ∧ HB w B (.slice ap (pc ls k).length c) (pc ls k)
theorem PS.below {w w' : World} {B B' b o : Nat} {ls : List (List UInt8)} (h : PS w B b o ls) (hb : Below B w w') (hB : B ≤ B') : PS w' B' b o ls := by
  refine ⟨by have := h.1; omega, fun k hk => ?_⟩
  obtain ⟨ap, c, h1, h2⟩ := h.2 k hk
  exact ⟨ap, c, (hb.cell (p := ⟨b, o + k, none⟩) h.1).trans h1, h2.below hb hB⟩

/-! ### zzBytes -/
def ZzPost (ls : List (List UInt8)) (w : World) (e : Ending) (w' : World) : Prop :=
  w' = w ∧ ∃ β, e = .returned (.bool β) ∧ (β = true → ls.length + st ls ls.length ≤ 1048576)

set_option maxRecDepth 1000000 in
set_option maxHeartbeats 1000000 in
theorem bytes_any (ls : List (List UInt8)) (b o c m : Nat) (hm : ls.length = m) (w : World) (hP : PS w w.heap.size b o ls) (hmm : m ≤ maxLen) :
    Calls Try.prog 12 #[.slice (some ⟨b, o, none⟩) m c] w fun e w' => ZzPost ls w e w' := by
  unfold maxLen at hmm
  have HP : Hid _ := hP
  have HM : Hid _ := hm
  clear hP hm
  by_cases h20 : m ≤ 1048576
  · have h20I : ¬ (1048576 : Int) < (m : Int) := by omega
    go_enter Try.func12, Try.ntmps12
    go_wp2
    go_loop [3, 4] (fun z i => ∃ k : Nat, k ≤ m ∧ i = .int .i64 k ∧ ∃ t : Nat, z = .int .i64 t ∧ t ≤ 1048576 ∧ Hid (t = m + st ls k)) (fun _ i => m - (intOf i).toNat)
    case atStart => exact ⟨0, by omega, rfl, m, rfl, by omega, by simp [Hid, st_zero]⟩
    case round =>
      obtain ⟨k, hk, rfl, t, rfl, ht, HT⟩ := hrel
      by_cases hlt : k < m
      · obtain ⟨ap, c2, hcell, hHB⟩ := HP.out.2 k (by rw [HM.out]; exact hlt)
        clear hHB
        obtain ⟨n, hn⟩ : ∃ n, n = (pc ls k).length := ⟨_, rfl⟩
        rw [← hn] at hcell
        have HN : Hid (st ls (k + 1) = st ls k + n) := by show _ = _; rw [hn]; exact st_succ ls k (by rw [HM.out]; exact hlt)
        clear hn
        by_cases hbig : n ≤ 1048576
        · have hbigI : ¬ (1048576 : Int) < (n : Int) := by omega
          by_cases hsum : t + n ≤ 1048576
          · have hsumI : ¬ (1048576 : Int) < (t : Int) + (n : Int) := by omega
            go_wp2
            go_round
            case rel => exact ⟨k + 1, by omega, by go_num, t + n, by go_num, by omega, by show _ = _; rw [HT.out, HN.out]; omega⟩
            case measure => simp [intOf]; omega
          · have hsumI : (1048576 : Int) < (t : Int) + (n : Int) := by omega
            go_wp2
            go_ret
            exact ⟨rfl, false, rfl, fun h => by simp at h⟩
        · have hbigI : (1048576 : Int) < (n : Int) := by omega
          go_wp2
          go_ret
          exact ⟨rfl, false, rfl, fun h => by simp at h⟩
      · obtain rfl : k = m := by omega
        go_wp2
        go_ret
        exact ⟨rfl, true, rfl, fun _ => by rw [HM.out]; have := HT.out; omega⟩
  · have h20I : (1048576 : Int) < (m : Int) := by omega
    go_enter Try.func12, Try.ntmps12
    go_wp2
    go_ret
    exact ⟨rfl, false, rfl, fun h => by simp at h⟩

/-! ### firstMark -/
theorem idx_first {S : List UInt8} {k : Nat} (h : First S k) : Lib.index S mk3 = (k : Int) := by
  rcases idx_cases S with ⟨_, h2⟩ | ⟨i, h1, h2⟩
  · exact absurd h.1 (h2 k)
  · rw [h1]
    have : i = k := by
      apply Classical.byContradiction
      intro hne
      rcases Nat.lt_or_gt_of_ne hne with hl | hl
      · exact h.2 i hl h2.1
      · exact h2.2 k hl h.1
    rw [this]
theorem idx_no {S : List UInt8} (h : NoM S) : Lib.index S mk3 = -1 := by
  rcases idx_cases S with ⟨h1, _⟩ | ⟨i, _, h2⟩
  · exact h1
  · exact absurd h2.1 (h i)
theorem occ_at (S : List UInt8) (k : Nat) (h : k + 2 < S.length) : Occ S k ↔ ((S.getD k 0).toNat : Int) = 239 ∧ ((S.getD (k + 1) 0).toNat : Int) = 187 ∧ ((S.getD (k + 2) 0).toNat : Int) = 191 := by
  have key : ∀ (j : Nat) (v : UInt8), j < S.length → (S[j]? = some v ↔ ((S.getD j 0).toNat : Int) = (v.toNat : Int)) := by
    intro j v hj
    rw [List.getD_eq_getElem?_getD, List.getElem?_eq_getElem hj]
    constructor
    · intro e; simp at e; rw [Option.getD_some, e]
    · intro e
      rw [Option.getD_some] at e
      exact congrArg some (UInt8.toNat_inj.1 (by omega))
  unfold Occ
  rw [key k 239 (by omega), key (k + 1) 187 (by omega), key (k + 2) 191 h]
  exact Iff.rfl

set_option maxRecDepth 1000000 in
set_option maxHeartbeats 2000000 in
theorem firstMark_any (S : List UInt8) (g n c : Nat) (hn : S.length = n) (hs : n ≤ 1048576) (w : World) (hc : ∀ i, i < n → w.cell? ⟨g, i, none⟩ = some (.int .u8 ((S.getD i 0).toNat : Int))) :
    Calls Try.prog 11 #[.slice (some ⟨g, 0, none⟩) n c] w fun e w' => e = .returned (.int .i64 (Lib.index S mk3)) ∧ w' = w := by
  have HC : Hid _ := hc
  have HL : Hid _ := hn
  clear hc hn
  go_enter Try.func11, Try.ntmps11
  go_wp2
  go_loop [3] (fun i => ∃ k : Nat, k ≤ n ∧ i = .int .i64 k ∧ Hid (∀ j, j < k → ¬ Occ S j)) (fun i => n - (intOf i).toNat)
  case atStart => exact ⟨0, by omega, rfl, fun j hj => by omega⟩
  case round =>
    obtain ⟨k, hk, rfl, HS⟩ := hrel
    by_cases hlt : k + 2 < n
    · have hltI : (k : Int) + 2 < (n : Int) := by omega
      have hlt1 : (k : Int) + 1 < (n : Int) := by omega
      have hlt0 : (k : Int) < (n : Int) := by omega
      have c0 := HC.out k (by omega)
      have c1 := HC.out (k + 1) (by omega)
      have c2 := HC.out (k + 2) hlt
      have HO : Hid _ := occ_at S k (by rw [HL.out]; exact hlt)
      generalize hx0 : ((S.getD k 0).toNat : Int) = x0 at *
      generalize hx1 : ((S.getD (k + 1) 0).toNat : Int) = x1 at *
      generalize hx2 : ((S.getD (k + 2) 0).toNat : Int) = x2 at *
      clear hx0 hx1 hx2
      have hw : ((x0 == 239) = true ∧ (x1 == 187) = true ∧ (x2 == 191) = true ∧ Hid (Occ S k)) ∨ (((x0 == 239) = false ∨ ((x0 == 239) = true ∧ (x1 == 187) = false) ∨ ((x0 == 239) = true ∧ (x1 == 187) = true ∧ (x2 == 191) = false)) ∧ Hid (¬ Occ S k)) := by
        simp only [beq_iff_eq, beq_eq_false_iff_ne]
        have ho := HO.out
        by_cases e0 : x0 = 239
        · by_cases e1 : x1 = 187
          · by_cases e2 : x2 = 191
            · exact .inl ⟨e0, e1, e2, ho.2 ⟨e0, e1, e2⟩⟩
            · exact .inr ⟨.inr (.inr ⟨e0, e1, e2⟩), fun h => e2 (ho.1 h).2.2⟩
          · exact .inr ⟨.inr (.inl ⟨e0, e1⟩), fun h => e1 (ho.1 h).2.1⟩
        · exact .inr ⟨.inl e0, fun h => e0 (ho.1 h).1⟩
      clear HO
      rcases hw with ⟨g0, g1, g2, HY⟩ | ⟨hw, HNo⟩
      · go_wp2
        go_ret
        exact ⟨ret_int (idx_first ⟨HY.out, HS.out⟩).symm, rfl⟩
      · have HS' : Hid (∀ j, j < k + 1 → ¬ Occ S j) := fun j hj => by
          by_cases e : j = k
          · rw [e]; exact HNo.out
          · exact HS.out j (by omega)
        rcases hw with g0 | ⟨g0, g1⟩ | ⟨g0, g1, g2⟩
        all_goals
          go_wp2
          go_round
          case rel => exact ⟨k + 1, by omega, by go_num, HS'⟩
          case measure => simp [intOf]; omega
    · have hltI : ¬ (k : Int) + 2 < (n : Int) := by omega
      have HE : Hid (Lib.index S mk3 = -1) := by
        show _ = _
        apply idx_no
        intro j ho
        have := ho.lt
        rw [HL.out] at this
        exact HS.out j (by omega) ho
      go_wp2
      go_ret
      exact ⟨ret_int HE.out.symm, rfl⟩

/-! ### pieceStartHolding -/
set_option maxRecDepth 1000000 in
set_option maxHeartbeats 1000000 in
theorem psh_any (ls : List (List UInt8)) (b o c m x k0 : Nat) (hm : ls.length = m) (w : World) (hP : PS w w.heap.size b o ls) (hk0 : k0 < m) (h1 : st ls k0 ≤ x) (h2 : x < st ls (k0 + 1)) (hmm : m ≤ 1048576) (hx : st ls m ≤ 1048576) :
    Calls Try.prog 13 #[.slice (some ⟨b, o, none⟩) m c, .int .i64 (x : Int)] w fun e w' => e = .returned (.int .i64 (st ls k0 : Int)) ∧ w' = w := by
  have HP : Hid _ := hP
  have HM : Hid _ := hm
  have HX1 : Hid _ := h1
  have HX2 : Hid _ := h2
  have HXM : Hid _ := hx
  have hxb : x < 1048576 := by have := st_mono ls (k0 + 1) m (by omega) (by omega); omega
  clear hP hm h1 h2 hx
  obtain ⟨T, hT⟩ : ∃ T : Int, T = (st ls k0 : Int) := ⟨_, rfl⟩
  rw [← hT]
  have HTT : Hid _ := hT
  clear hT
  go_enter Try.func13, Try.ntmps13
  go_wp2
  go_loop [5, 6] (fun z i => ∃ k : Nat, k ≤ k0 ∧ i = .int .i64 k ∧ ∃ t : Nat, z = .int .i64 t ∧ t ≤ 1048576 ∧ Hid (t = st ls k)) (fun _ i => m - (intOf i).toNat)
  case atStart => exact ⟨0, by omega, rfl, 0, rfl, by omega, rfl⟩
  case round =>
    obtain ⟨k, hk, rfl, t, rfl, ht, HT⟩ := hrel
    have hlt : k < m := by omega
    obtain ⟨ap, c2, hcell, hHB⟩ := HP.out.2 k (by rw [HM.out]; exact hlt)
    clear hHB
    obtain ⟨n, hn⟩ : ∃ n, n = (pc ls k).length := ⟨_, rfl⟩
    rw [← hn] at hcell
    have HN : Hid (st ls (k + 1) = st ls k + n) := by show _ = _; rw [hn]; exact st_succ ls k (by rw [HM.out]; exact hlt)
    have hnb : n ≤ 1048576 := by
      have h3 := st_mono ls (k + 1) m (by omega) (by rw [HM.out]; omega)
      have h4 := HN.out
      have h5 := HXM.out
      omega
    clear hn
    by_cases hkk : k = k0
    · have hin : (x : Int) < (t : Int) + (n : Int) := by
        have h3 := HX2.out
        have h4 := HN.out
        have h5 := HT.out
        rw [← hkk] at h3
        omega
      have HR : Hid ((t : Int) = T) := by show _ = _; rw [HTT.out, HT.out, hkk]
      clear hkk
      go_wp2
      go_ret
      exact ⟨ret_int HR.out, rfl⟩
    · have hin : ¬ (x : Int) < (t : Int) + (n : Int) := by
        have h3 := HX1.out
        have h4 := HN.out
        have h5 := HT.out
        have h6 := st_mono ls (k + 1) k0 (by omega) (by rw [HM.out]; omega)
        omega
      have htn : t + n ≤ 1048576 := by
        have h3 := st_mono ls (k + 1) m (by omega) (by rw [HM.out]; omega)
        have h4 := HN.out
        have h5 := HXM.out
        have h6 := HT.out
        omega
      have hk2 : k + 1 ≤ k0 := by omega
      clear hkk
      go_wp2
      go_round
      case rel => exact ⟨k + 1, hk2, by go_num, t + n, by go_num, by omega, by show _ = _; rw [HT.out, HN.out]⟩
      case measure => simp [intOf]; omega
end Go.Proofs.Qxb6605282a

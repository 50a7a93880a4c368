import Derived.Lib.IndexMore
namespace Go.Proofs.Qxb6605282a

def mk3 : List UInt8 := [239, 187, 191]
/-- The mark stands at place i of l. -/
def Occ (l : List UInt8) (i : Nat) : Prop := l[i]? = some 239 ∧ l[i + 1]? = some 187 ∧ l[i + 2]? = some 191
def First (l : List UInt8) (i : Nat) : Prop := Occ l i ∧ ∀ j, j < i → ¬ Occ l j
def NoM (l : List UInt8) : Prop := ∀ j, ¬ Occ l j
def last2 (l : List UInt8) : List UInt8 := l.drop (l.length - 2)

theorem Occ.lt {l : List UInt8} {i : Nat} (h : Occ l i) : i + 2 < l.length := (List.getElem?_eq_some_iff.1 h.2.2).1
theorem occ_iff (l : List UInt8) (i : Nat) : Lib.occAt l mk3 i = true ↔ Occ l i := by
  unfold Lib.occAt mk3 Occ
  have e0 : l[i]? = (l.drop i)[0]? := by simp
  have e1 : l[i + 1]? = (l.drop i)[1]? := by simp
  have e2 : l[i + 2]? = (l.drop i)[2]? := by simp
  rw [e0, e1, e2]
  generalize l.drop i = d
  match d with
  | [] => simp [List.isPrefixOf]
  | [a] => simp [List.isPrefixOf]
  | [a, b] => simp [List.isPrefixOf]
  | a :: b :: c :: t =>
    simp [List.isPrefixOf]
    constructor
    · rintro ⟨h1, h2, h3⟩; exact ⟨h1.symm, h2.symm, h3.symm⟩
    · rintro ⟨h1, h2, h3⟩; exact ⟨h1.symm, h2.symm, h3.symm⟩
theorem idx_cases (l : List UInt8) : (Lib.index l mk3 = -1 ∧ NoM l) ∨ ∃ i : Nat, Lib.index l mk3 = (i : Int) ∧ First l i := by
  rcases Lib.index_spec l mk3 with ⟨h1, h2⟩ | ⟨i, h1, h2, h3, h4⟩
  · left
    refine ⟨h1, fun j hj => ?_⟩
    have := h2 j (by have := hj.lt; omega)
    rw [(occ_iff l j).2 hj] at this
    simp at this
  · right
    refine ⟨i, h1, (occ_iff l i).1 h3, fun j hj ho => ?_⟩
    have := h4 j hj
    rw [(occ_iff l j).2 ho] at this
    simp at this

theorem last2_len (l : List UInt8) : (last2 l).length = min 2 l.length := by unfold last2; simp; omega
theorem last2_get (l : List UInt8) (i : Nat) : (last2 l)[i]? = l[l.length - 2 + i]? := by unfold last2; simp

theorem occ_left {S p : List UInt8} {j : Nat} (h : Occ (S ++ p) j) (hj : j + 2 < S.length) : Occ S j := by
  unfold Occ at *
  rw [List.getElem?_append_left (by omega), List.getElem?_append_left (by omega), List.getElem?_append_left (by omega)] at h
  exact h
theorem occ_right {S p : List UInt8} {j : Nat} : Occ (S ++ p) (S.length + j) ↔ Occ p j := by
  unfold Occ
  rw [List.getElem?_append_right (by omega), List.getElem?_append_right (by omega), List.getElem?_append_right (by omega)]
  rw [show S.length + j - S.length = j from by omega, show S.length + j + 1 - S.length = j + 1 from by omega, show S.length + j + 2 - S.length = j + 2 from by omega]
/-- A place of the edge is the same place of the joined stream. -/
theorem edge_get (S p : List UInt8) (i : Nat) (hi : i < (last2 S).length + 2) : (last2 S ++ p.take 2)[i]? = (S ++ p)[S.length - (last2 S).length + i]? := by
  have hl := last2_len S
  by_cases h : i < (last2 S).length
  · rw [List.getElem?_append_left h, last2_get, List.getElem?_append_left (by omega)]
    congr 1
    omega
  · rw [List.getElem?_append_right (by omega), List.getElem?_append_right (by omega), List.getElem?_take, if_pos (by omega)]
    congr 1
    omega
theorem edge_occ {S p : List UInt8} {i : Nat} (h : Occ (last2 S ++ p.take 2) i) : Occ (S ++ p) (S.length - (last2 S).length + i) := by
  have hlt := h.lt
  rw [List.length_append] at hlt
  have ht : (p.take 2).length ≤ 2 := by simp; omega
  unfold Occ at *
  rw [edge_get S p i (by omega), edge_get S p (i + 1) (by omega), edge_get S p (i + 2) (by omega)] at h
  exact h
theorem occ_edge {S p : List UInt8} {j : Nat} (h : Occ (S ++ p) j) (h1 : S.length < j + 3) (h2 : j < S.length) : Occ (last2 S ++ p.take 2) (j - (S.length - (last2 S).length)) ∧ S.length - (last2 S).length ≤ j := by
  have hl := last2_len S
  refine ⟨?_, by omega⟩
  unfold Occ at *
  rw [edge_get S p _ (by omega), edge_get S p _ (by omega), edge_get S p _ (by omega)]
  rw [show S.length - (last2 S).length + (j - (S.length - (last2 S).length)) = j from by omega, show S.length - (last2 S).length + (j - (S.length - (last2 S).length) + 1) = j + 1 from by omega, show S.length - (last2 S).length + (j - (S.length - (last2 S).length) + 2) = j + 2 from by omega]
  exact h

theorem step_edge {S p : List UInt8} {i : Nat} (hS : NoM S) (hE : First (last2 S ++ p.take 2) i) : First (S ++ p) (S.length - (last2 S).length + i) := by
  refine ⟨edge_occ hE.1, fun j hj ho => ?_⟩
  have hl := last2_len S
  have hlt := hE.1.lt
  have ht : (p.take 2).length ≤ 2 := by simp; omega
  rw [List.length_append] at hlt
  by_cases h : j + 2 < S.length
  · exact hS j (occ_left ho h)
  · have h2 : j < S.length := by omega
    obtain ⟨h3, h4⟩ := occ_edge ho (by omega) h2
    exact hE.2 _ (by omega) h3
theorem step_in {S p : List UInt8} {i : Nat} (hS : NoM S) (hE : NoM (last2 S ++ p.take 2)) (hp : First p i) : First (S ++ p) (S.length + i) := by
  refine ⟨occ_right.2 hp.1, fun j hj ho => ?_⟩
  by_cases h : j + 2 < S.length
  · exact hS j (occ_left ho h)
  · by_cases h2 : j < S.length
    · exact hE _ (occ_edge ho (by omega) h2).1
    · obtain ⟨k, rfl⟩ : ∃ k, j = S.length + k := ⟨j - S.length, by omega⟩
      exact hp.2 k (by omega) (occ_right.1 ho)
theorem step_no {S p : List UInt8} (hS : NoM S) (hE : NoM (last2 S ++ p.take 2)) (hp : NoM p) : NoM (S ++ p) := by
  intro j ho
  by_cases h : j + 2 < S.length
  · exact hS j (occ_left ho h)
  · by_cases h2 : j < S.length
    · exact hE _ (occ_edge ho (by omega) h2).1
    · obtain ⟨k, rfl⟩ : ∃ k, j = S.length + k := ⟨j - S.length, by omega⟩
      exact hp k (occ_right.1 ho)
theorem last2_app (S p : List UInt8) : last2 (S ++ p) = last2 (if p.length < 2 then last2 S ++ p.take 2 else p) := by
  apply List.ext_getElem?
  intro i
  have hl := last2_len S
  rw [last2_get, last2_get]
  split
  · rename_i h
    have e : p.take 2 = p := List.take_of_length_le (by omega)
    rw [e]
    by_cases hi : i < 2
    · by_cases h3 : (S ++ p).length - 2 + i < S.length
      · rw [List.length_append] at h3
        rw [List.length_append, List.length_append, List.getElem?_append_left (by omega), List.getElem?_append_left (by omega), last2_get]
        congr 1
        omega
      · rw [List.length_append] at h3
        rw [List.length_append, List.length_append, List.getElem?_append_right (by omega), List.getElem?_append_right (by omega)]
        congr 1
        omega
    · rw [List.getElem?_eq_none (by rw [List.length_append]; omega), List.getElem?_eq_none (by rw [List.length_append]; omega)]
  · rename_i h
    rw [List.length_append, List.getElem?_append_right (by omega)]
    congr 1
    omega

/-- What 'scan' makes of what is kept, K, and a piece p at offset off; a: the place that stood before. -/
def scanR (K p : List UInt8) (off a : Int) : List UInt8 × Bool × Int :=
  if 0 ≤ Lib.index (K ++ p.take 2) mk3 then (K, true, off - (K.length : Int) + Lib.index (K ++ p.take 2) mk3)
  else if 0 ≤ Lib.index p mk3 then (K, true, off + Lib.index p mk3)
  else (last2 (if p.length < 2 then K ++ p.take 2 else p), false, a)

/-- Where the scanner stands behind the stream S, the piece starts so far being given by 'starts': none found, or the first one. -/
def Good (S : List UInt8) (st : Nat → Nat) (K : List UInt8) (f : Bool) (a : Int) : Prop :=
  (NoM S ∧ f = false ∧ a = 0 ∧ K = last2 S) ∨
  ∃ (i k : Nat), First S i ∧ f = true ∧ a = (i : Int) ∧ st k ≤ i + 2 ∧ i + 2 < st (k + 1) ∧ st k ≤ S.length ∧ K = last2 (S.take (st k))

theorem good_step {S p : List UInt8} {st : Nat → Nat} {k : Nat} (hS : NoM S) (h0 : st k = S.length) (h1 : st (k + 1) = S.length + p.length) :
    Good (S ++ p) st (scanR (last2 S) p (S.length : Int) 0).1 (scanR (last2 S) p (S.length : Int) 0).2.1 (scanR (last2 S) p (S.length : Int) 0).2.2 := by
  have hl := last2_len S
  unfold scanR
  rcases idx_cases (last2 S ++ p.take 2) with ⟨e1, n1⟩ | ⟨i, e1, f1⟩
  · rw [e1, if_neg (by omega)]
    rcases idx_cases p with ⟨e2, n2⟩ | ⟨i, e2, f2⟩
    · rw [e2, if_neg (by omega)]
      exact .inl ⟨step_no hS n1 n2, rfl, rfl, (last2_app S p).symm⟩
    · rw [e2, if_pos (by omega)]
      have hlt := f2.1.lt
      exact .inr ⟨S.length + i, k, step_in hS n1 f2, rfl, by simp, by omega, by omega, by rw [List.length_append]; omega, by rw [h0, List.take_left]⟩
  · rw [e1, if_pos (by omega)]
    have hlt := f1.1.lt
    have ho := step_edge hS f1
    have hlt2 := ho.1.lt
    have hge : S.length ≤ S.length - (last2 S).length + i + 2 := by
      apply Classical.byContradiction
      intro hn
      exact hS _ (occ_left ho.1 (by omega))
    rw [List.length_append] at hlt2
    exact .inr ⟨S.length - (last2 S).length + i, k, ho, rfl, by simp only; omega, by omega, by omega, by rw [List.length_append]; omega, by rw [h0, List.take_left]⟩

theorem First.app {S p : List UInt8} {i : Nat} (h : First S i) : First (S ++ p) i := by
  have hlt := h.1.lt
  have hap : ∀ j, j + 2 < S.length → (Occ (S ++ p) j ↔ Occ S j) := fun j hj => by
    unfold Occ
    rw [List.getElem?_append_left (by omega), List.getElem?_append_left (by omega), List.getElem?_append_left (by omega)]
  exact ⟨(hap i hlt).2 h.1, fun j hj ho => h.2 j hj ((hap j (by omega)).1 ho)⟩
theorem good_found {S p : List UInt8} {st : Nat → Nat} {K : List UInt8} {a : Int} (h : Good S st K true a) : Good (S ++ p) st K true a := by
  rcases h with ⟨_, h, _⟩ | ⟨i, k, h1, h2, h3, h4, h5, h6, h7⟩
  · simp at h
  · exact .inr ⟨i, k, h1.app, h2, h3, h4, h5, by rw [List.length_append]; omega, by rw [h7, List.take_append_of_le_length h6]⟩
theorem good_none {S : List UInt8} {st : Nat → Nat} {K : List UInt8} {a : Int} (h : Good S st K false a) : NoM S ∧ a = 0 ∧ K = last2 S := by
  rcases h with ⟨h1, _, h2, h3⟩ | ⟨i, k, _, h, _⟩
  · exact ⟨h1, h2, h3⟩
  · simp at h
theorem good_nil (st : Nat → Nat) : Good [] st [] false 0 := .inl ⟨fun j h => by have := h.lt; simp at this, rfl, rfl, rfl⟩
theorem scanR_len (K p : List UInt8) (off a : Int) (hK : K.length ≤ 2) : (scanR K p off a).1.length ≤ 2 := by
  unfold scanR
  repeat' split
  all_goals first
    | exact hK
    | (simp only; rw [last2_len]; omega)
end Go.Proofs.Qxb6605282a

namespace Go.Proofs.Qxb6605328a

/-! 'strings.Cut' at one byte, and the segments of a path, on lists of bytes. -/
def bef (c : UInt8) (l : List UInt8) : List UInt8 := l.takeWhile (· != c)
def aft (c : UInt8) (l : List UInt8) : List UInt8 := (l.dropWhile (· != c)).tail
def fnd (c : UInt8) (l : List UInt8) : Bool := l.any (· == c)
def segs : List UInt8 → List (List UInt8)
  | [] => [[]]
  | c :: t => if c = 47 then [] :: segs t else (match segs t with | h :: r => (c :: h) :: r | [] => [[c]])
def dotS (x : List UInt8) : Bool := x == [46] || x == [46, 46]
def piece (s : List UInt8) : List UInt8 := if s = [] then [] else 47 :: s
/-- What cleanSegments makes of segments without a dot segment. -/
def cl : List (List UInt8) → List UInt8 → List UInt8
  | [], acc => acc
  | [s], acc => acc ++ piece s ++ (if s = [] then [47] else [])
  | s :: t :: r, acc => cl (t :: r) (acc ++ piece s)
/-- What WithoutPathParameters makes of a path's segments: none: refused. -/
def wp : List (List UInt8) → List UInt8 → Option (List UInt8)
  | [], acc => some acc
  | [s], acc => if dotS (bef 59 s) = true then none else some (acc ++ piece (bef 59 s) ++ (if bef 59 s = [] then [47] else []))
  | s :: t :: r, acc => if dotS (bef 59 s) = true then none else wp (t :: r) (acc ++ piece (bef 59 s))
def strp (inP : Bool) : List UInt8 → List UInt8
  | [] => []
  | c :: t => if c = 47 then c :: strp false t else if c = 59 then strp true t else if inP = true then strp true t else c :: strp false t

theorem bef_nil (c : UInt8) : bef c [] = [] := rfl
theorem bef_cons (c a : UInt8) (l : List UInt8) : bef c (a :: l) = if a = c then [] else a :: bef c l := by
  unfold bef
  rw [List.takeWhile_cons]
  by_cases h : a = c <;> simp [h]
theorem aft_cons (c a : UInt8) (l : List UInt8) : aft c (a :: l) = if a = c then l else aft c l := by
  unfold aft
  rw [List.dropWhile_cons]
  by_cases h : a = c <;> simp [h]
theorem fnd_cons (c a : UInt8) (l : List UInt8) : fnd c (a :: l) = (a == c || fnd c l) := by simp [fnd]
theorem segs_ne (l : List UInt8) : segs l ≠ [] := by
  cases l with
  | nil => simp [segs]
  | cons c t =>
    simp only [segs]
    split
    · simp
    · split <;> simp
theorem segs_cut (l : List UInt8) : segs l = if fnd 47 l = true then bef 47 l :: segs (aft 47 l) else [l] := by
  induction l with
  | nil => simp [segs, fnd]
  | cons c t ih =>
    rw [fnd_cons, bef_cons, aft_cons]
    simp only [segs]
    by_cases h : c = 47
    · simp [h]
    · simp only [h, if_false]
      have hb : (c == 47) = false := by simp [h]
      rw [hb, Bool.false_or, ih]
      cases hf : fnd 47 t <;> simp

theorem strp_47 (b : Bool) (t : List UInt8) : strp b (47 :: t) = 47 :: strp false t := by simp [strp]
theorem strp_59 (b : Bool) (t : List UInt8) : strp b (59 :: t) = strp true t := by simp [strp]
theorem strp_f (c : UInt8) (t : List UInt8) (h1 : c ≠ 47) (h2 : c ≠ 59) : strp false (c :: t) = c :: strp false t := by simp [strp, h1, h2]
theorem strp_t (c : UInt8) (t : List UInt8) (h1 : c ≠ 47) : strp true (c :: t) = strp true t := by simp [strp, h1]
theorem segs_47 (t : List UInt8) : segs (47 :: t) = [] :: segs t := by simp [segs]
theorem segs_o (c : UInt8) (t h : List UInt8) (r : List (List UInt8)) (h1 : c ≠ 47) (hr : segs t = h :: r) : segs (c :: t) = (c :: h) :: r := by simp [segs, h1, hr]
theorem segs_strp (l : List UInt8) : segs (strp false l) = (segs l).map (bef 59) ∧ segs (strp true l) = [] :: (segs l).tail.map (bef 59) := by
  induction l with
  | nil => exact ⟨rfl, rfl⟩
  | cons c t ih =>
    obtain ⟨ih1, ih2⟩ := ih
    obtain ⟨h, r, hr⟩ : ∃ h r, segs t = h :: r := by
      cases hs : segs t with
      | nil => exact absurd hs (segs_ne t)
      | cons h r => exact ⟨h, r, rfl⟩
    rw [hr] at ih1 ih2
    by_cases h47 : c = 47
    · subst h47
      rw [strp_47, strp_47, segs_47, segs_47, hr, ih1]
      exact ⟨rfl, rfl⟩
    · by_cases h59 : c = 59
      · subst h59
        rw [strp_59, strp_59, segs_o 59 t h r (by decide) hr, ih2]
        exact ⟨by simp [bef_cons], rfl⟩
      · rw [strp_f c t h47 h59, strp_t c t h47, segs_o c t h r h47 hr, ih2, segs_o c _ _ _ h47 ih1]
        exact ⟨by simp [bef_cons, h59], rfl⟩
theorem strp_head (t : List UInt8) : strp false (47 :: t) = 47 :: strp false t := by simp [strp]
theorem strp_len (b : Bool) (l : List UInt8) : (strp b l).length ≤ l.length := by
  induction l generalizing b with
  | nil => simp [strp]
  | cons c t ih =>
    have h1 := ih true
    have h2 := ih false
    simp only [strp]
    repeat' split
    all_goals (simp only [List.length_cons]; omega)

theorem wp_dot (L : List (List UInt8)) (acc : List UInt8) (hL : L ≠ []) : wp L acc = if (L.map (bef 59)).any dotS = true then none else some (cl (L.map (bef 59)) acc) := by
  induction L generalizing acc with
  | nil => exact absurd rfl hL
  | cons s L ih =>
    cases L with
    | nil => simp [wp, cl]
    | cons t r =>
      simp only [wp, List.map_cons, List.any_cons, cl]
      cases hd : dotS (bef 59 s)
      · simp only [Bool.false_eq_true, if_false, Bool.false_or]
        rw [ih _ (by simp)]
        simp
      · simp

def total : List (List UInt8) → Nat
  | [] => 0
  | s :: r => s.length + 1 + total r
theorem piece_len (s : List UInt8) : (piece s).length ≤ s.length + 1 := by unfold piece; split <;> simp
theorem cl_len (L : List (List UInt8)) (acc : List UInt8) : (cl L acc).length ≤ acc.length + total L := by
  induction L generalizing acc with
  | nil => simp [cl, total]
  | cons s L ih =>
    cases L with
    | nil =>
      simp only [cl, total, List.length_append]
      unfold piece
      by_cases h : s = []
      · simp [h]
      · simp [h]
    | cons t r =>
      simp only [cl]
      have := ih (acc ++ piece s)
      have hp := piece_len s
      rw [List.length_append] at this
      simp only [total] at *
      omega
theorem segs_total (l : List UInt8) : total (segs l) = l.length + 1 := by
  induction l with
  | nil => rfl
  | cons c t ih =>
    simp only [segs]
    split
    · simp only [total, List.length_nil, List.length_cons]; omega
    · cases hs : segs t with
      | nil => exact absurd hs (segs_ne t)
      | cons h r =>
        rw [hs] at ih
        simp only [total, List.length_cons] at *
        omega
theorem cl_no (L : List (List UInt8)) (acc : List UInt8) (ha : fnd 59 acc = false) (hL : ∀ s ∈ L, fnd 59 s = false) : fnd 59 (cl L acc) = false := by
  have hp : ∀ s : List UInt8, fnd 59 s = false → fnd 59 (piece s) = false := by
    intro s h
    unfold piece
    split
    · rfl
    · rw [fnd_cons, h]; rfl
  induction L generalizing acc with
  | nil => exact ha
  | cons s L ih =>
    have h1 : fnd 59 (acc ++ piece s) = false := by
      have := hp s (hL s (by simp))
      simp only [fnd, List.any_append] at *
      rw [ha, this]; rfl
    cases L with
    | nil =>
      simp only [cl]
      split
      · simp only [fnd, List.any_append] at *
        rw [h1]; rfl
      · rw [List.append_nil]; exact h1
    | cons t r =>
      simp only [cl]
      exact ih _ h1 (fun x hx => hL x (List.mem_cons_of_mem _ hx))
theorem fnd_bef (c : UInt8) (l : List UInt8) : fnd c (bef c l) = false := by
  induction l with
  | nil => rfl
  | cons a t ih =>
    rw [bef_cons]
    split
    · rfl
    · rename_i h
      rw [fnd_cons, ih]; simp [h]
theorem bef_same (c : UInt8) (l : List UInt8) (h : fnd c l = false) : bef c l = l := by
  induction l with
  | nil => rfl
  | cons a t ih =>
    rw [fnd_cons, Bool.or_eq_false_iff] at h
    rw [bef_cons, if_neg (by simpa using h.1), ih h.2]
theorem fnd_sub (c d : UInt8) (l : List UInt8) (h : fnd c l = false) : fnd c (bef d l) = false := by
  induction l with
  | nil => rfl
  | cons a t ih =>
    rw [fnd_cons, Bool.or_eq_false_iff] at h
    rw [bef_cons]
    split
    · rfl
    · rw [fnd_cons, h.1, ih h.2]; rfl

/-- THE PLAIN LAW: a path '/' r: the answer is refused just where the stripped path has a dot segment; else it is what cleanSegments makes of the stripped path. -/
theorem plain_refused (r : List UInt8) (h : (segs (strp false r)).any dotS = true) : wp (segs r) [] = none := by
  rw [wp_dot _ _ (segs_ne r), ← (segs_strp r).1, if_pos h]
theorem plain_kept (r : List UInt8) (h : (segs (strp false r)).any dotS = false) : wp (segs r) [] = some (cl (segs (strp false r)) []) := by
  rw [wp_dot _ _ (segs_ne r), ← (segs_strp r).1, if_neg (by rw [h]; simp)]
theorem plain_semi (r : List UInt8) : fnd 59 (cl (segs (strp false r)) []) = false := by
  apply cl_no _ _ rfl
  rw [(segs_strp r).1]
  intro s hs
  obtain ⟨x, _, rfl⟩ := List.mem_map.1 hs
  exact fnd_bef 59 x
theorem plain_len (r : List UInt8) : (cl (segs (strp false r)) []).length ≤ r.length + 1 := by
  have h1 := cl_len (segs (strp false r)) []
  rw [segs_total] at h1
  have h2 := strp_len false r
  simp only [List.length_nil] at h1
  omega
end Go.Proofs.Qxb6605328a

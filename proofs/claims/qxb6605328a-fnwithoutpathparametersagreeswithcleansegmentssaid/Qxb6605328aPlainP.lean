namespace Go.Proofs.Qxb6605328a

def an (b : Int) : Bool := decide ((97 ≤ b ∧ b ≤ 122) ∨ (65 ≤ b ∧ b ≤ 90) ∨ (48 ≤ b ∧ b ≤ 57))
def hx (b : Int) : Bool := decide ((48 ≤ b ∧ b ≤ 57) ∨ (97 ≤ b ∧ b ≤ 102) ∨ (65 ≤ b ∧ b ≤ 70))
def punct : List UInt8 := [45, 46, 95, 126, 33, 36, 38, 39, 40, 41, 42, 43, 44, 59, 61, 58, 64, 47]
def okc (c : UInt8) : Bool := an (c.toNat : Int) || punct.any (· == c)
/-- The text from a place on passes isPath's loop. -/
def pth : List UInt8 → Bool
  | [] => true
  | c :: rest => if c = 37 then (match rest with | a :: b :: t => hx (a.toNat : Int) && hx (b.toNat : Int) && pth t | _ => false) else okc c && pth rest
def hd47 (l : List UInt8) : Bool := l.head? == some 47
def isP (l : List UInt8) : Bool := hd47 l && pth l
def dig (D : List UInt8) (n : Nat) : UInt8 := D.getD n 0
def enc1 (D : List UInt8) (c : UInt8) : List UInt8 := if an (c.toNat : Int) = true then [c] else [37, dig D (c.toNat / 16), dig D (c.toNat % 16)]
def enc (D : List UInt8) (l : List UInt8) : List UInt8 := l.flatMap (enc1 D)

theorem pth_nil : pth [] = true := rfl
theorem pth_other (c : UInt8) (t : List UInt8) (h : c ≠ 37) : pth (c :: t) = (okc c && pth t) := by
  cases t with
  | nil => simp [pth, h]
  | cons a t => cases t <;> simp [pth, h]
theorem pth_pct (a b : UInt8) (t : List UInt8) : pth (37 :: a :: b :: t) = (hx (a.toNat : Int) && hx (b.toNat : Int) && pth t) := by simp [pth]
theorem pth_pct0 : pth [37] = false := by simp [pth]
theorem pth_pct1 (a : UInt8) : pth [37, a] = false := by simp [pth]

theorem an_ne (c : UInt8) (h : an (c.toNat : Int) = true) : c ≠ 37 ∧ c ≠ 47 := by
  constructor <;> (intro e; subst e; revert h; decide)

theorem enc_skip (D : List UInt8) (hD : ∀ n, n < 16 → hx ((dig D n).toNat : Int) = true) (l t : List UInt8) : pth (enc D l ++ t) = pth t := by
  induction l with
  | nil => rfl
  | cons c l ih =>
    have e : enc D (c :: l) = enc1 D c ++ enc D l := by simp [enc]
    rw [e, List.append_assoc]
    unfold enc1
    split
    · rename_i h
      rw [List.cons_append, List.nil_append, pth_other _ _ (an_ne c h).1]
      have : okc c = true := by unfold okc; rw [h]; rfl
      rw [this, ih]; rfl
    · have h1 := hD (c.toNat / 16) (by have := c.toNat_lt; omega)
      have h2 := hD (c.toNat % 16) (by omega)
      rw [List.cons_append, List.cons_append, List.cons_append, List.nil_append, pth_pct, h1, h2, ih]; rfl

theorem enc_head (D : List UInt8) (l : List UInt8) : hd47 (enc D l) = false := by
  cases l with
  | nil => rfl
  | cons c l =>
    have e : enc D (c :: l) = enc1 D c ++ enc D l := by simp [enc]
    rw [e]
    unfold enc1
    split
    · rename_i h
      unfold hd47
      simp [(an_ne c h).2]
    · rfl

theorem okc47 : okc 47 = true := by decide
theorem enc_path (D : List UInt8) (hD : ∀ n, n < 16 → hx ((dig D n).toNat : Int) = true) (l : List UInt8) : isP (47 :: enc D l) = true := by
  have := enc_skip D hD l []
  rw [List.append_nil] at this
  unfold isP
  rw [pth_other _ _ (by decide), okc47, this]
  rfl
theorem enc_bad (D : List UInt8) (hD : ∀ n, n < 16 → hx ((dig D n).toNat : Int) = true) (l t : List UInt8) (ht : pth t = false) : isP (47 :: enc D l ++ t) = false := by
  unfold isP
  rw [List.cons_append, pth_other _ _ (by decide), enc_skip D hD l t, ht]
  simp
theorem bad1 : pth [37] = false := pth_pct0
theorem bad2 : pth [37, 52] = false := pth_pct1 52
theorem bad3 : pth [37, 103, 48] = false := by rw [pth_pct]; decide
theorem bad4 : pth [32] = false := by rw [pth_other _ _ (by decide)]; decide
theorem bad5 (l : List UInt8) : isP (120 :: l) = false := by unfold isP hd47; simp
theorem bad6 (D l : List UInt8) : isP (enc D l) = false := by unfold isP; rw [enc_head]; rfl

theorem enc1_len (D : List UInt8) (c : UInt8) : (enc1 D c).length ≤ 3 := by unfold enc1; split <;> simp
theorem enc_snoc (D l : List UInt8) (c : UInt8) : enc D (l ++ [c]) = enc D l ++ enc1 D c := by simp [enc]
theorem enc_len (D l : List UInt8) : (enc D l).length ≤ 3 * l.length := by
  induction l with
  | nil => simp [enc]
  | cons c l ih =>
    have e : enc D (c :: l) = enc1 D c ++ enc D l := by simp [enc]
    rw [e, List.length_append, List.length_cons]
    have := enc1_len D c
    omega
end Go.Proofs.Qxb6605328a

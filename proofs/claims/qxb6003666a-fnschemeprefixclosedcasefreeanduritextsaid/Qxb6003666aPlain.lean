namespace Go.Proofs.Qxb6003666a

def al (b : Int) : Bool := decide ((97 ≤ b ∧ b ≤ 122) ∨ (65 ≤ b ∧ b ≤ 90))
def dg (b : Int) : Bool := decide (48 ≤ b ∧ b ≤ 57)
def rs (b : Int) : Bool := al b || dg b || decide (b = 43 ∨ b = 45 ∨ b = 46)
/-- Every non-empty list of this kind is a scheme; the empty one passes too. -/
def schT : List UInt8 → Bool
  | [] => true
  | a :: t => al (a.toNat : Int) && t.all (fun c => rs (c.toNat : Int))
def sch (l : List UInt8) : Bool := schT l && !l.isEmpty
def swp (c : UInt8) : UInt8 := if 97 ≤ c.toNat ∧ c.toNat ≤ 122 then UInt8.ofNat (c.toNat - 32) else if 65 ≤ c.toNat ∧ c.toNat ≤ 90 then UInt8.ofNat (c.toNat + 32) else c

theorem al_rs (b : Int) (h : al b = true) : rs b = true := by simp [rs, h]

theorem schT_snoc (l : List UInt8) (c : UInt8) : schT (l ++ [c]) = (schT l && (al (c.toNat : Int) || (!l.isEmpty && rs (c.toNat : Int)))) := by
  cases l with
  | nil => simp [schT]
  | cons a t =>
    simp only [List.cons_append, schT, List.all_append, List.all_cons, List.all_nil, Bool.and_true, List.isEmpty_cons, Bool.not_false, Bool.true_and]
    have : (al (c.toNat : Int) || rs (c.toNat : Int)) = rs (c.toNat : Int) := by
      cases h : al (c.toNat : Int)
      · simp
      · simp [al_rs _ h]
    rw [this, Bool.and_assoc]

theorem schT_append (l m : List UInt8) (h : schT l = false) : schT (l ++ m) = false := by
  cases l with
  | nil => simp [schT] at h
  | cons a t =>
    simp only [List.cons_append, schT, List.all_append] at *
    cases h1 : al (a.toNat : Int)
    · simp
    · rw [h1, Bool.true_and] at h
      rw [h]; simp

theorem schT_take (l : List UInt8) (k : Nat) (h : schT (l.take k) = false) : schT l = false := by
  have := schT_append (l.take k) (l.drop k) h
  rwa [List.take_append_drop] at this

theorem sch_take (l : List UInt8) (n : Nat) (h : sch l = true) (h1 : 1 ≤ n) : sch (l.take n) = true := by
  unfold sch at *
  rw [Bool.and_eq_true] at *
  refine ⟨?_, ?_⟩
  · cases hc : schT (l.take n)
    · rw [schT_take l n hc] at h; exact absurd h.1 (by simp)
    · rfl
  · cases l with
    | nil => simp at h
    | cons a t =>
      obtain ⟨m, rfl⟩ : ∃ m, n = m + 1 := ⟨n - 1, by omega⟩
      simp

theorem sch_all (l : List UInt8) (h : sch l = true) : ∀ c ∈ l, rs (c.toNat : Int) = true := by
  unfold sch at h
  cases l with
  | nil => simp
  | cons a t =>
    simp only [schT, List.isEmpty_cons, Bool.not_false, Bool.and_true, Bool.and_eq_true, List.all_eq_true] at h
    intro c hc
    rcases List.mem_cons.1 hc with rfl | hc
    · exact al_rs _ h.1
    · exact h.2 c hc

theorem swp_al (c : UInt8) : al ((swp c).toNat : Int) = al (c.toNat : Int) := by
  have hc : c.toNat < 256 := c.toNat_lt
  unfold swp al
  rw [decide_eq_decide]
  split
  · rw [UInt8.toNat_ofNat']; omega
  · split
    · rw [UInt8.toNat_ofNat']; omega
    · exact Iff.rfl
theorem swp_rs (c : UInt8) : rs ((swp c).toNat : Int) = rs (c.toNat : Int) := by
  have hc : c.toNat < 256 := c.toNat_lt
  unfold rs
  rw [swp_al]
  have : (dg ((swp c).toNat : Int) || decide (((swp c).toNat : Int) = 43 ∨ ((swp c).toNat : Int) = 45 ∨ ((swp c).toNat : Int) = 46)) = (dg (c.toNat : Int) || decide ((c.toNat : Int) = 43 ∨ (c.toNat : Int) = 45 ∨ (c.toNat : Int) = 46)) := by
    unfold dg
    rw [Bool.eq_iff_iff]
    simp only [Bool.or_eq_true, decide_eq_true_eq]
    unfold swp
    split
    · rw [UInt8.toNat_ofNat']; omega
    · split
      · rw [UInt8.toNat_ofNat']; omega
      · exact Iff.rfl
  rw [Bool.or_assoc, this, Bool.or_assoc]
theorem sch_swp (l : List UInt8) : sch (l.map swp) = sch l := by
  cases l with
  | nil => rfl
  | cons a t =>
    have : (t.map swp).all (fun c => rs (c.toNat : Int)) = t.all (fun c => rs (c.toNat : Int)) := by
      rw [List.all_map]
      congr 1
      funext c
      exact swp_rs c
    simp only [sch, List.map_cons, schT, List.isEmpty_cons, this, swp_al]

theorem sch_seven (l : List UInt8) : sch (55 :: l) = false := by
  simp only [sch, schT]
  have : al ((55 : UInt8).toNat : Int) = false := by decide
  rw [this]; simp
theorem sch_plus (l : List UInt8) : sch (43 :: l) = false := by
  simp only [sch, schT]
  have : al ((43 : UInt8).toNat : Int) = false := by decide
  rw [this]; simp
theorem sch_colon (l : List UInt8) : sch (l ++ [58]) = false := by
  unfold sch
  rw [schT_snoc]
  have h1 : al ((58 : UInt8).toNat : Int) = false := by decide
  have h2 : rs ((58 : UInt8).toNat : Int) = false := by decide
  rw [h1, h2]; simp
theorem sch_more (l : List UInt8) (h : sch l = true) : sch (l ++ [120, 43, 49, 45, 46]) = true := by
  cases l with
  | nil => simp [sch] at h
  | cons a t =>
    simp only [sch, schT, List.isEmpty_cons, Bool.not_false, Bool.and_true, Bool.and_eq_true] at h
    simp only [sch, List.cons_append, schT, List.isEmpty_cons, Bool.not_false, Bool.and_true, h.1, Bool.true_and, List.all_append, h.2]
    decide
end Go.Proofs.Qxb6003666a

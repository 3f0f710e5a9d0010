namespace Go.Proofs.Qxb6600554a.Pl

/-! ### Bytes -/
def isDig (c : Nat) : Bool := decide (48 ≤ c) && decide (c ≤ 57)
def isSp (c : Nat) : Bool := c == 32 || c == 9 || c == 10 || c == 11 || c == 12 || c == 13
def isSt (c : Nat) : Bool := c == 32 || c == 9 || c == 10
def rank (c : Nat) : Int := if c = 100 then 0 else if c = 104 then 1 else if c = 109 then 2 else if c = 115 then 3 else -1
def scale (r : Int) : Int := if r = 0 then 86400 else if r = 1 then 3600 else if r = 2 then 60 else 1

/-! ### Runs -/
def runTo (p : Nat → Bool) (b : Nat → Nat) (L : Nat) : Nat → Nat → Nat
  | 0, i => i
  | f + 1, i => if i < L ∧ p (b i) = true then runTo p b L f (i + 1) else i
/-- The first index from i on that is L or at which p fails. -/
def stop (p : Nat → Bool) (b : Nat → Nat) (L i : Nat) : Nat := runTo p b L (L - i) i

theorem runTo_spec (p : Nat → Bool) (b : Nat → Nat) (L : Nat) : ∀ f i, i ≤ L → L - i ≤ f → i ≤ runTo p b L f i ∧ runTo p b L f i ≤ L ∧ (∀ j, i ≤ j → j < runTo p b L f i → p (b j) = true) ∧ (runTo p b L f i = L ∨ p (b (runTo p b L f i)) = false)
  | 0, i, h, hf => by
    unfold runTo
    exact ⟨Nat.le_refl _, h, fun j a c => by omega, Or.inl (by omega)⟩
  | f + 1, i, h, hf => by
    unfold runTo
    by_cases c : i < L ∧ p (b i) = true
    · rw [if_pos c]
      obtain ⟨h1, h2, h3, h4⟩ := runTo_spec p b L f (i + 1) (by omega) (by omega)
      refine ⟨by omega, h2, fun j a d => ?_, h4⟩
      by_cases e : j = i
      · rw [e]; exact c.2
      · exact h3 j (by omega) d
    · rw [if_neg c]
      refine ⟨Nat.le_refl _, h, fun j a d => by omega, ?_⟩
      by_cases e : i = L
      · exact Or.inl e
      · right
        cases hp : p (b i)
        · rfl
        · exact absurd ⟨by omega, hp⟩ c

theorem stop_spec (p : Nat → Bool) (b : Nat → Nat) (L i : Nat) (h : i ≤ L) : i ≤ stop p b L i ∧ stop p b L i ≤ L ∧ (∀ j, i ≤ j → j < stop p b L i → p (b j) = true) ∧ (stop p b L i = L ∨ p (b (stop p b L i)) = false) :=
  runTo_spec p b L (L - i) i h (Nat.le_refl _)

theorem stop_eq (p : Nat → Bool) (b : Nat → Nat) (L i e : Nat) (h1 : i ≤ e) (h2 : e ≤ L) (h3 : ∀ j, i ≤ j → j < e → p (b j) = true) (h4 : e = L ∨ p (b e) = false) : stop p b L i = e := by
  obtain ⟨k1, k2, k3, k4⟩ := stop_spec p b L i (by omega)
  rcases Nat.lt_trichotomy (stop p b L i) e with h | h | h
  · rcases k4 with k | k
    · omega
    · have := h3 _ k1 h
      rw [this] at k
      cases k
  · exact h
  · rcases h4 with k | k
    · omega
    · have := k3 _ h1 h
      rw [this] at k
      cases k

/-! ### Numbers -/
def num (b : Nat → Nat) (i : Nat) : Nat → Nat
  | 0 => 0
  | k + 1 => num b i k * 10 + (b (i + k) - 48)

/-- Kept from growing past 2^31. -/
def sat (b : Nat → Nat) (i : Nat) : Nat → Nat
  | 0 => 0
  | k + 1 => min (sat b i k * 10 + (b (i + k) - 48)) 2147483648

theorem sat_eq (b : Nat → Nat) (i : Nat) : ∀ k, sat b i k = min (num b i k) 2147483648
  | 0 => rfl
  | k + 1 => by
    unfold sat num
    rw [sat_eq b i k]
    omega

theorem sat_le (b : Nat → Nat) (i k : Nat) : sat b i k ≤ 2147483648 := by rw [sat_eq]; omega

theorem num_lt (b : Nat → Nat) (i : Nat) : ∀ k, (∀ j, i ≤ j → j < i + k → isDig (b j) = true) → num b i k < 10 ^ k
  | 0, _ => by simp [num]
  | k + 1, h => by
    have h1 := num_lt b i k (fun j a c => h j a (by omega))
    have h2 := h (i + k) (by omega) (by omega)
    simp only [isDig, Bool.and_eq_true, decide_eq_true_eq] at h2
    unfold num
    rw [Nat.pow_succ]
    omega

/-- A leading nought. -/
theorem num_zero (b : Nat → Nat) (i : Nat) (h : b i = 48) : ∀ k, num b i (k + 1) = num b (i + 1) k
  | 0 => by simp [num, h]
  | k + 1 => by
    have := num_zero b i h k
    unfold num
    rw [this]
    rw [show i + (k + 1) = i + 1 + k by omega]

theorem num_zeros (b : Nat → Nat) (i : Nat) : ∀ m k, (∀ j, i ≤ j → j < i + m → b j = 48) → num b i (m + k) = num b (i + m) k
  | 0, k, _ => by simp
  | m + 1, k, h => by
    rw [show m + 1 + k = (m + k) + 1 by omega, num_zero b i (h i (Nat.le_refl _) (by omega)), num_zeros b (i + 1) m k (fun j a c => h j (by omega) (by omega))]
    rw [show i + 1 + m = i + (m + 1) by omega]

/-- A first digit that is no nought makes the number great. -/
theorem num_ge (b : Nat → Nat) (i : Nat) (h0 : b i ≠ 48) (h1 : isDig (b i) = true) : ∀ k, 10 ^ k ≤ num b i (k + 1)
  | 0 => by
    simp only [isDig, Bool.and_eq_true, decide_eq_true_eq] at h1
    simp [num]
    omega
  | k + 1 => by
    have := num_ge b i h0 h1 k
    rw [num, Nat.pow_succ]
    omega

/-! ### Blanks, a signed number, a term -/
def skip (b : Nat → Nat) (L i : Nat) : Nat := if i < L ∧ isSt (b i) = true then stop isSp b L i else i

def signEnd (b : Nat → Nat) (L i : Nat) : Nat := if i < L ∧ b i = 45 then i + 1 else i

def sint (b : Nat → Nat) (L i : Nat) : Int × Nat × Bool :=
  if stop isDig b L (signEnd b L i) = signEnd b L i ∨ 2147483647 < num b (signEnd b L i) (stop isDig b L (signEnd b L i) - signEnd b L i) then (0, stop isDig b L (signEnd b L i), false)
  else (if i < L ∧ b i = 45 then -(num b (signEnd b L i) (stop isDig b L (signEnd b L i) - signEnd b L i) : Int) else num b (signEnd b L i) (stop isDig b L (signEnd b L i) - signEnd b L i), stop isDig b L (signEnd b L i), true)

theorem isSt_sp (c : Nat) (h : isSt c = true) : isSp c = true := by
  simp only [isSt, Bool.or_eq_true, beq_iff_eq] at h
  simp only [isSp, Bool.or_eq_true, beq_iff_eq]
  omega

theorem skip_spec (b : Nat → Nat) (L i : Nat) (h : i ≤ L) : i ≤ skip b L i ∧ skip b L i ≤ L ∧ (∀ j, i ≤ j → j < skip b L i → isSp (b j) = true) := by
  unfold skip
  by_cases c : i < L ∧ isSt (b i) = true
  · rw [if_pos c]
    obtain ⟨h1, h2, h3, _⟩ := stop_spec isSp b L i h
    exact ⟨h1, h2, h3⟩
  · rw [if_neg c]
    exact ⟨Nat.le_refl _, h, fun j a d => by omega⟩

/-- A second skip reads nothing. -/
theorem skip_skip (b : Nat → Nat) (L i : Nat) (h : i ≤ L) : skip b L (skip b L i) = skip b L i := by
  by_cases c : i < L ∧ isSt (b i) = true
  · have e : skip b L i = stop isSp b L i := by unfold skip; rw [if_pos c]
    obtain ⟨h1, h2, h3, h4⟩ := stop_spec isSp b L i h
    rw [e]
    unfold skip
    rw [if_neg]
    rintro ⟨k1, k2⟩
    rcases h4 with k | k
    · omega
    · rw [isSt_sp _ k2] at k; cases k
  · have e : skip b L i = i := by unfold skip; rw [if_neg c]
    rw [e, e]

theorem signEnd_spec (b : Nat → Nat) (L i : Nat) (h : i ≤ L) : i ≤ signEnd b L i ∧ signEnd b L i ≤ L := by
  unfold signEnd; split <;> omega

theorem sint_end (b : Nat → Nat) (L i : Nat) : (sint b L i).2.1 = stop isDig b L (signEnd b L i) := by
  unfold sint; split <;> rfl

theorem sint_spec (b : Nat → Nat) (L i : Nat) (h : i ≤ L) : i ≤ (sint b L i).2.1 ∧ (sint b L i).2.1 ≤ L ∧ ((sint b L i).2.2 = true → i < (sint b L i).2.1) ∧ ((sint b L i).2.2 = false → (sint b L i).1 = 0) := by
  obtain ⟨h1, h2⟩ := signEnd_spec b L i h
  obtain ⟨h3, h4, _, _⟩ := stop_spec isDig b L (signEnd b L i) h2
  rw [sint_end]
  refine ⟨by omega, h4, ?_, ?_⟩
  · unfold sint
    split
    · intro k; cases k
    · rename_i c
      intro _
      have : ¬ stop isDig b L (signEnd b L i) = signEnd b L i := fun e => c (Or.inl e)
      omega
  · unfold sint
    split
    · intro _; rfl
    · intro k; cases k

theorem sint_bound (b : Nat → Nat) (L i : Nat) : -2147483647 ≤ (sint b L i).1 ∧ (sint b L i).1 ≤ 2147483647 := by
  unfold sint
  split
  · constructor <;> (dsimp only; omega)
  · rename_i c
    have : ¬ 2147483647 < num b (signEnd b L i) (stop isDig b L (signEnd b L i) - signEnd b L i) := fun e => c (Or.inr e)
    split <;> constructor <;> (dsimp only; omega)

end Go.Proofs.Qxb6600554a.Pl

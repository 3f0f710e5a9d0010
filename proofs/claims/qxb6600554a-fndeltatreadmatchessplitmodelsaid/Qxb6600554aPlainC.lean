import Derived.Test.Qxb6600554aPlainB
namespace Go.Proofs.Qxb6600554a.Pl

/-! ### The clock: Go's reader, and the model that cuts at the colons -/
def gC (b : Nat → Nat) (L : Nat) : Nat → Nat → List Int → Option (List Int)
  | 0, _, _ => none
  | f + 1, pos, acc =>
    if stop isDig b L pos - pos ≠ 1 ∧ stop isDig b L pos - pos ≠ 2 then none
    else if stop isDig b L pos = L then some (acc ++ [(num b pos (stop isDig b L pos - pos) : Int)])
    else if b (stop isDig b L pos) = 58 then gC b L f (stop isDig b L pos + 1) (acc ++ [(num b pos (stop isDig b L pos - pos) : Int)])
    else none

/-- All digits from i on, k of them. -/
def allDig (b : Nat → Nat) (i : Nat) : Nat → Bool
  | 0 => true
  | k + 1 => allDig b i k && isDig (b (i + k))

/-- The model's result: dash or colon. 'D', 'C': how the fields are added up. -/
def mC (D : Int → Int → Int → Int) (C : Int → Int → Int) (b : Nat → Nat) (L : Nat) (dash : Bool) : Nat → Nat → Nat → Nat → Int → Int → Int → Int × Bool
  | 0, _, _, _, _, _, _ => (0, false)
  | f + 1, i, start, count, f0, f1, f2 =>
    if i ≤ L then
      if i < L ∧ b i ≠ 58 then mC D C b L dash f (i + 1) start count f0 f1 f2
      else if i - start < 1 ∨ 2 < i - start then (0, false)
      else if allDig b start (i - start) = false then (0, false)
      else if count = 0 then mC D C b L dash f (i + 1) (i + 1) 1 (num b start (i - start)) f1 f2
      else if count = 1 then mC D C b L dash f (i + 1) (i + 1) 2 f0 (num b start (i - start)) f2
      else if count = 2 then mC D C b L dash f (i + 1) (i + 1) 3 f0 f1 (num b start (i - start))
      else (0, false)
    else if dash = true then (if count = 3 then (D f0 f1 f2, true) else (0, false))
    else if 2 < count then (0, false) else (C f0 f1, true)

def fin (D : Int → Int → Int → Int) (C : Int → Int → Int) (dash : Bool) : Option (List Int) → Int × Bool
  | none => (0, false)
  | some [x] => if dash = true then (0, false) else (C x 0, true)
  | some [x, y] => if dash = true then (0, false) else (C x y, true)
  | some [x, y, z] => if dash = true then (D x y z, true) else (0, false)
  | some _ => (0, false)

theorem allDig_iff (b : Nat → Nat) (i : Nat) : ∀ k, allDig b i k = true ↔ ∀ j, i ≤ j → j < i + k → isDig (b j) = true
  | 0 => ⟨fun _ j a c => by omega, fun _ => rfl⟩
  | k + 1 => by
    rw [allDig, Bool.and_eq_true, allDig_iff b i k]
    constructor
    · rintro ⟨h1, h2⟩ j a c
      by_cases e : j = i + k
      · rw [e]; exact h2
      · exact h1 j a (by omega)
    · intro h
      exact ⟨fun j a c => h j a (by omega), h (i + k) (by omega) (by omega)⟩

theorem mC_skip (D : Int → Int → Int → Int) (C : Int → Int → Int) (b : Nat → Nat) (L : Nat) (dash : Bool) (start count : Nat) (f0 f1 f2 : Int) : ∀ k f i, i + k ≤ L → (∀ j, i ≤ j → j < i + k → b j ≠ 58) → mC D C b L dash (f + k) i start count f0 f1 f2 = mC D C b L dash f (i + k) start count f0 f1 f2
  | 0, f, i, _, _ => rfl
  | k + 1, f, i, h, hr => by
    rw [show f + (k + 1) = (f + k) + 1 by omega, mC, if_pos (by omega), if_pos ⟨by omega, hr i (Nat.le_refl _) (by omega)⟩, mC_skip D C b L dash start count f0 f1 f2 k f (i + 1) (by omega) (fun j a c => hr j (by omega) (by omega))]
    rw [show i + 1 + k = i + (k + 1) by omega]

theorem gC_long (b : Nat → Nat) (L : Nat) : ∀ f pos acc r, gC b L f pos acc = some r → acc.length < r.length
  | 0, pos, acc, r, h => by simp [gC] at h
  | f + 1, pos, acc, r, h => by
    rw [gC] at h
    split at h
    · cases h
    · split at h
      · have := Option.some.inj h
        rw [← this]; simp
      · split at h
        · have := gC_long b L f _ _ r h
          simp at this
          omega
        · cases h

theorem fin_long (D : Int → Int → Int → Int) (C : Int → Int → Int) (dash : Bool) (r : Option (List Int)) (h : ∀ l, r = some l → 3 < l.length) : fin D C dash r = (0, false) := by
  match r with
  | none => rfl
  | some [] => rfl
  | some [x] => exact absurd (h _ rfl) (by simp)
  | some [x, y] => exact absurd (h _ rfl) (by simp)
  | some [x, y, z] => exact absurd (h _ rfl) (by simp)
  | some (x :: y :: z :: u :: l) => rfl

def notColon (c : Nat) : Bool := decide (c ≠ 58)
theorem dig_notColon (c : Nat) (h : isDig c = true) : c ≠ 58 := by
  simp only [isDig, Bool.and_eq_true, decide_eq_true_eq] at h
  omega

/-- One step of both readers from a field's start. -/
theorem clock_step (D : Int → Int → Int → Int) (C : Int → Int → Int) (b : Nat → Nat) (L : Nat) (dash : Bool) (pos count : Nat) (f0 f1 f2 : Int) (acc : List Int) (f f' : Nat) (hp : pos ≤ L) (hf' : L - pos + 1 < f') :
    (gC b L (f + 1) pos acc = none ∧ mC D C b L dash f' pos pos count f0 f1 f2 = (0, false)) ∨
    ∃ e g, pos < e ∧ e ≤ L ∧ f' = g + 1 + (e - pos) ∧ 1 ≤ e - pos ∧ e - pos ≤ 2 ∧ (e = L ∨ e < L ∧ b e = 58) ∧
      (gC b L (f + 1) pos acc = if e = L then some (acc ++ [(num b pos (e - pos) : Int)]) else gC b L f (e + 1) (acc ++ [(num b pos (e - pos) : Int)])) ∧
      mC D C b L dash f' pos pos count f0 f1 f2 =
        (if count = 0 then mC D C b L dash g (e + 1) (e + 1) 1 (num b pos (e - pos)) f1 f2
        else if count = 1 then mC D C b L dash g (e + 1) (e + 1) 2 f0 (num b pos (e - pos)) f2
        else if count = 2 then mC D C b L dash g (e + 1) (e + 1) 3 f0 f1 (num b pos (e - pos))
        else (0, false)) := by
  obtain ⟨i1, i2, i3, i4⟩ := stop_spec notColon b L pos hp
  generalize stop notColon b L pos = i at i1 i2 i3 i4
  obtain ⟨e1, e2, e3, e4⟩ := stop_spec isDig b L pos hp
  have hcol : i = L ∨ b i = 58 := by
    rcases i4 with k | k
    · exact Or.inl k
    · right; simpa [notColon] using k
  have hle : stop isDig b L pos ≤ i := by
    rcases Nat.lt_or_ge i (stop isDig b L pos) with c | c
    · have := e3 i i1 c
      rcases hcol with k | k
      · omega
      · exact absurd k (dig_notColon _ this)
    · exact c
  have hm : mC D C b L dash f' pos pos count f0 f1 f2 = mC D C b L dash (f' - (i - pos)) i pos count f0 f1 f2 := by
    have := mC_skip D C b L dash pos count f0 f1 f2 (i - pos) (f' - (i - pos)) pos (by omega) (fun j a c => by have := i3 j a (by omega); simpa [notColon] using this)
    rw [show f' - (i - pos) + (i - pos) = f' by omega, show pos + (i - pos) = i by omega] at this
    exact this
  obtain ⟨g, hg⟩ : ∃ g, f' - (i - pos) = g + 1 := ⟨f' - (i - pos) - 1, by omega⟩
  rw [hm, hg, mC, if_pos i2, if_neg (show ¬ (i < L ∧ b i ≠ 58) by rintro ⟨a, c⟩; rcases hcol with k | k; omega; exact c k)]
  by_cases hei : stop isDig b L pos = i
  · by_cases hlen : i - pos < 1 ∨ 2 < i - pos
    · left
      refine ⟨?_, by rw [if_pos hlen]⟩
      rw [gC, hei, if_pos (by omega)]
    · right
      refine ⟨i, g, by omega, i2, by omega, by omega, by omega, ?_, ?_, ?_⟩
      · rcases hcol with k | k
        · exact Or.inl k
        · by_cases e : i = L
          · exact Or.inl e
          · exact Or.inr ⟨by omega, k⟩
      · rw [gC, hei, if_neg (by omega)]
        by_cases e : i = L
        · rw [if_pos e, if_pos e]
        · rw [if_neg e, if_neg e, if_pos (by rcases hcol with k | k; exact absurd k e; exact k)]
      · rw [if_neg hlen, if_neg]
        have : allDig b pos (i - pos) = true := (allDig_iff b pos (i - pos)).2 (fun j a c => e3 j a (by omega))
        rw [this]; simp
  · left
    have hlt : stop isDig b L pos < i := by omega
    have hnd : isDig (b (stop isDig b L pos)) = false := by
      rcases e4 with k | k
      · omega
      · exact k
    have hnc : b (stop isDig b L pos) ≠ 58 := by
      have := i3 _ e1 hlt
      simpa [notColon] using this
    constructor
    · rw [gC]
      split
      · rfl
      · rw [if_neg (show ¬ stop isDig b L pos = L by omega)]
    · split
      · rfl
      · rw [if_pos]
        cases h : allDig b pos (i - pos)
        · rfl
        · have := (allDig_iff b pos (i - pos)).1 h _ e1 (by omega)
          rw [hnd] at this; cases this

theorem mC_end (D : Int → Int → Int → Int) (C : Int → Int → Int) (b : Nat → Nat) (L : Nat) (dash : Bool) (g count : Nat) (f0 f1 f2 : Int) : mC D C b L dash (g + 1) (L + 1) (L + 1) count f0 f1 f2 = if dash = true then (if count = 3 then (D f0 f1 f2, true) else (0, false)) else if 2 < count then (0, false) else (C f0 f1, true) := by
  rw [mC, if_neg (by omega)]

/-- Three fields have been read: a fourth refuses. -/
theorem clock3 (D : Int → Int → Int → Int) (C : Int → Int → Int) (b : Nat → Nat) (L : Nat) (dash : Bool) (pos : Nat) (f0 f1 f2 : Int) (f f' : Nat) (hp : pos ≤ L) (hf' : L - pos + 1 < f') :
    fin D C dash (gC b L f pos [f0, f1, f2]) = (0, false) ∧ mC D C b L dash f' pos pos 3 f0 f1 f2 = (0, false) := by
  refine ⟨fin_long _ _ _ _ (fun l h => by have := gC_long b L f pos _ l h; simpa using this), ?_⟩
  rcases clock_step D C b L dash pos 3 f0 f1 f2 [f0, f1, f2] 0 f' hp hf' with ⟨_, h⟩ | ⟨e, g, _, _, _, _, _, _, _, h⟩
  · exact h
  · rw [h]; rfl

theorem clock2 (D : Int → Int → Int → Int) (C : Int → Int → Int) (b : Nat → Nat) (L : Nat) (dash : Bool) (pos : Nat) (f0 f1 : Int) (f f' : Nat) (hp : pos ≤ L) (hf : L - pos < f) (hf' : L - pos + 1 < f') :
    fin D C dash (gC b L f pos [f0, f1]) = mC D C b L dash f' pos pos 2 f0 f1 0 := by
  obtain ⟨f, rfl⟩ : ∃ k, f = k + 1 := ⟨f - 1, by omega⟩
  rcases clock_step D C b L dash pos 2 f0 f1 0 [f0, f1] f f' hp hf' with ⟨h1, h2⟩ | ⟨e, g, a1, a2, a3, a4, a5, a6, h1, h2⟩
  · rw [h1, h2]; rfl
  · replace h2 := h2.trans (show _ = mC D C b L dash g (e + 1) (e + 1) 3 f0 f1 (num b pos (e - pos)) from rfl)
    rw [h1, h2]
    by_cases eL : e = L
    · rw [if_pos eL, eL]
      obtain ⟨g, rfl⟩ : ∃ k, g = k + 1 := ⟨g - 1, by omega⟩
      rw [mC_end]
      cases dash <;> rfl
    · rw [if_neg eL]
      obtain ⟨x, y⟩ := clock3 D C b L dash (e + 1) f0 f1 (num b pos (e - pos)) f g (by omega) (by omega)
      rw [y]
      exact x

theorem clock1 (D : Int → Int → Int → Int) (C : Int → Int → Int) (b : Nat → Nat) (L : Nat) (dash : Bool) (pos : Nat) (f0 : Int) (f f' : Nat) (hp : pos ≤ L) (hf : L - pos < f) (hf' : L - pos + 1 < f') :
    fin D C dash (gC b L f pos [f0]) = mC D C b L dash f' pos pos 1 f0 0 0 := by
  obtain ⟨f, rfl⟩ : ∃ k, f = k + 1 := ⟨f - 1, by omega⟩
  rcases clock_step D C b L dash pos 1 f0 0 0 [f0] f f' hp hf' with ⟨h1, h2⟩ | ⟨e, g, a1, a2, a3, a4, a5, a6, h1, h2⟩
  · rw [h1, h2]; rfl
  · replace h2 := h2.trans (show _ = mC D C b L dash g (e + 1) (e + 1) 2 f0 (num b pos (e - pos)) 0 from rfl)
    rw [h1, h2]
    by_cases eL : e = L
    · rw [if_pos eL, eL]
      obtain ⟨g, rfl⟩ : ∃ k, g = k + 1 := ⟨g - 1, by omega⟩
      rw [mC_end]
      cases dash <;> rfl
    · rw [if_neg eL]
      exact clock2 D C b L dash (e + 1) f0 (num b pos (e - pos)) f g (by omega) (by omega) (by omega)

theorem clock0 (D : Int → Int → Int → Int) (C : Int → Int → Int) (b : Nat → Nat) (L : Nat) (dash : Bool) (pos : Nat) (f f' : Nat) (hp : pos ≤ L) (hf : L - pos < f) (hf' : L - pos + 1 < f') :
    fin D C dash (gC b L f pos []) = mC D C b L dash f' pos pos 0 0 0 0 := by
  obtain ⟨f, rfl⟩ : ∃ k, f = k + 1 := ⟨f - 1, by omega⟩
  rcases clock_step D C b L dash pos 0 0 0 0 [] f f' hp hf' with ⟨h1, h2⟩ | ⟨e, g, a1, a2, a3, a4, a5, a6, h1, h2⟩
  · rw [h1, h2]; rfl
  · replace h2 := h2.trans (show _ = mC D C b L dash g (e + 1) (e + 1) 1 (num b pos (e - pos)) 0 0 from rfl)
    rw [h1, h2]
    by_cases eL : e = L
    · rw [if_pos eL, eL]
      obtain ⟨g, rfl⟩ : ∃ k, g = k + 1 := ⟨g - 1, by omega⟩
      rw [mC_end]
      cases dash <;> rfl
    · rw [if_neg eL]
      exact clock1 D C b L dash (e + 1) (num b pos (e - pos)) f g (by omega) (by omega) (by omega)
end Go.Proofs.Qxb6600554a.Pl

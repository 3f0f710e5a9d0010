import Derived.Test.Qxb6600554aPlain
namespace Go.Proofs.Qxb6600554a.Pl

/-! ### Units: Go's reader, and the model that cuts at the letters -/
def gU (step : Int → Int → Int → Int) (b : Nat → Nat) (L : Nat) : Nat → Nat → Int → Int → Nat → Int × Bool
  | 0, _, _, _, _ => (0, false)
  | f + 1, pos, total, lo, last =>
    if pos < L then
      if isSt (b pos) = true ∧ skip b L pos = L then (total, decide (last ≠ 115))
      else if (sint b L (skip b L pos)).2.2 = false then (0, false)
      else if (sint b L (skip b L pos)).2.1 = L then (0, false)
      else if rank (b (sint b L (skip b L pos)).2.1) < lo then (0, false)
      else gU step b L f ((sint b L (skip b L pos)).2.1 + 1) (step total (sint b L (skip b L pos)).1 (scale (rank (b (sint b L (skip b L pos)).2.1)))) (rank (b (sint b L (skip b L pos)).2.1) + 1) (b (sint b L (skip b L pos)).2.1)
    else (total, true)

def mU (step : Int → Int → Int → Int) (b : Nat → Nat) (L : Nat) : Nat → Nat → Nat → Int → Int → Nat → Int × Bool
  | 0, _, _, _, _, _ => (0, false)
  | f + 1, i, start, total, allowed, last =>
    if i < L then
      if rank (b i) < 0 then mU step b L f (i + 1) start total allowed last
      else if rank (b i) < allowed then (0, false)
      else if (sint b i (skip b i start)).2.2 = false ∨ (sint b i (skip b i start)).2.1 ≠ i then (0, false)
      else mU step b L f (i + 1) (i + 1) (step total (sint b i (skip b i start)).1 (scale (rank (b i)))) (rank (b i) + 1) (b i)
    else if start = L then (total, true)
    else if skip b L start = L then (total, decide (last ≠ 115))
    else (0, false)

theorem stop_cut (p : Nat → Bool) (b : Nat → Nat) (L i q : Nat) (hq : q ≤ i) (hi : i ≤ L) (h : i = L ∨ p (b i) = false) : stop p b i q = stop p b L q ∧ stop p b L q ≤ i := by
  obtain ⟨h1, h2, h3, h4⟩ := stop_spec p b L q (by omega)
  have hle : stop p b L q ≤ i := by
    rcases h with k | k
    · omega
    · rcases Nat.lt_or_ge i (stop p b L q) with c | c
      · have := h3 i hq c
        rw [this] at k; cases k
      · exact c
  refine ⟨stop_eq p b i q _ h1 hle h3 ?_, hle⟩
  by_cases e : stop p b L q = i
  · exact Or.inl e
  · rcases h4 with k | k
    · omega
    · exact Or.inr k

theorem sp_rank (c : Nat) (h : isSp c = true) : rank c < 0 := by
  simp only [isSp, Bool.or_eq_true, beq_iff_eq] at h
  unfold rank
  rw [if_neg (by omega), if_neg (by omega), if_neg (by omega), if_neg (by omega)]
  decide
theorem dig_rank (c : Nat) (h : isDig c = true) : rank c < 0 := by
  simp only [isDig, Bool.and_eq_true, decide_eq_true_eq] at h
  unfold rank
  rw [if_neg (by omega), if_neg (by omega), if_neg (by omega), if_neg (by omega)]
  decide
theorem dash_rank : rank 45 < 0 := by decide

/-- At a letter, or at the end, cutting the text changes nothing. -/
theorem skip_cut (b : Nat → Nat) (L i q : Nat) (hq : q ≤ i) (hi : i ≤ L) (h : i = L ∨ 0 ≤ rank (b i)) : skip b i q = skip b L q ∧ skip b L q ≤ i := by
  have hsp : i = L ∨ isSp (b i) = false := by
    rcases h with k | k
    · exact Or.inl k
    · right
      cases e : isSp (b i)
      · rfl
      · have := sp_rank _ e; omega
  unfold skip
  by_cases c : q < L ∧ isSt (b q) = true
  · have hqi : q < i := by
      rcases Nat.lt_or_ge q i with k | k
      · exact k
      · have e : q = i := by omega
        subst e
        rcases hsp with k2 | k2
        · omega
        · rw [isSt_sp _ c.2] at k2; cases k2
    rw [if_pos c, if_pos ⟨hqi, c.2⟩]
    exact stop_cut isSp b L i q hq hi hsp
  · rw [if_neg c, if_neg (fun k => c ⟨by omega, k.2⟩)]
    exact ⟨rfl, hq⟩

theorem sint_cut (b : Nat → Nat) (L i q : Nat) (hq : q ≤ i) (hi : i ≤ L) (h : i = L ∨ 0 ≤ rank (b i)) : sint b i q = sint b L q ∧ (sint b L q).2.1 ≤ i := by
  have hd : i = L ∨ isDig (b i) = false := by
    rcases h with k | k
    · exact Or.inl k
    · right
      cases e : isDig (b i)
      · rfl
      · have := dig_rank _ e; omega
  have hsg : (q < i ∧ b q = 45) ↔ (q < L ∧ b q = 45) := by
    constructor
    · rintro ⟨a, c⟩; exact ⟨by omega, c⟩
    · rintro ⟨a, c⟩
      refine ⟨?_, c⟩
      rcases Nat.lt_or_ge q i with k | k
      · exact k
      · have e : q = i := by omega
        subst e
        rcases h with k2 | k2
        · omega
        · rw [c] at k2; have := dash_rank; omega
  have hse : signEnd b i q = signEnd b L q := by
    unfold signEnd
    by_cases c : q < L ∧ b q = 45
    · rw [if_pos c, if_pos (hsg.2 c)]
    · rw [if_neg c, if_neg (fun k => c (hsg.1 k))]
  have hle : signEnd b i q ≤ i := (signEnd_spec b i q hq).2
  obtain ⟨h1, h2⟩ := stop_cut isDig b L i (signEnd b i q) hle hi hd
  rw [sint_end]
  rw [← hse]
  refine ⟨?_, h2⟩
  unfold sint
  rw [← hse, h1]
  by_cases c : q < L ∧ b q = 45
  · rw [if_pos c, if_pos (hsg.2 c)]
  · rw [if_neg c, if_neg (fun k => c (hsg.1 k))]

theorem mU_skip (step : Int → Int → Int → Int) (b : Nat → Nat) (L start : Nat) (total allowed : Int) (last : Nat) : ∀ k f i, i + k ≤ L → (∀ j, i ≤ j → j < i + k → rank (b j) < 0) → mU step b L (f + k) i start total allowed last = mU step b L f (i + k) start total allowed last
  | 0, f, i, _, _ => rfl
  | k + 1, f, i, h, hr => by
    rw [show f + (k + 1) = (f + k) + 1 by omega, mU, if_pos (by omega), if_pos (hr i (Nat.le_refl _) (by omega)), mU_skip step b L start total allowed last k f (i + 1) (by omega) (fun j a c => hr j (by omega) (by omega))]
    rw [show i + 1 + k = i + (k + 1) by omega]

def notLet (c : Nat) : Bool := decide (rank c < 0)

theorem gU_mU (step : Int → Int → Int → Int) (b : Nat → Nat) (L : Nat) : ∀ n pos total lo last f f', pos ≤ L → L - pos ≤ n → L - pos < f → L - pos < f' → 1 ≤ lo → gU step b L f pos total lo last = mU step b L f' pos pos total lo last
  | n, pos, total, lo, last, f + 1, f', hp, hn, hf, hf', hlo => by
    by_cases hge : L ≤ pos
    · have e : pos = L := by omega
      subst e
      obtain ⟨g, rfl⟩ : ∃ g, f' = g + 1 := ⟨f' - 1, by omega⟩
      rw [gU, if_neg (by omega), mU, if_neg (by omega), if_pos rfl]
    have hL : pos < L := by omega
    obtain ⟨i1, i2, i3, i4⟩ := stop_spec notLet b L pos hp
    generalize stop notLet b L pos = i at i1 i2 i3 i4
    have hi : i = L ∨ 0 ≤ rank (b i) := by
      rcases i4 with k | k
      · exact Or.inl k
      · right; simp only [notLet, decide_eq_false_iff_not] at k; omega
    have hmU : mU step b L f' pos pos total lo last = mU step b L (f' - (i - pos)) i pos total lo last := by
      have := mU_skip step b L pos total lo last (i - pos) (f' - (i - pos)) pos (by omega) (fun j a c => by have := i3 j a (by omega); simpa [notLet] using this)
      rw [show f' - (i - pos) + (i - pos) = f' by omega, show pos + (i - pos) = i by omega] at this
      exact this
    rw [hmU]
    obtain ⟨g, hg⟩ : ∃ g, f' - (i - pos) = g + 1 := ⟨f' - (i - pos) - 1, by omega⟩
    rw [hg]
    obtain ⟨s1, s2⟩ := skip_cut b L i pos i1 i2 hi
    obtain ⟨t1, t2⟩ := sint_cut b L i (skip b L pos) s2 i2 hi
    obtain ⟨u1, u2, u3⟩ := skip_spec b L pos hp
    obtain ⟨v1, v2, v3, v4⟩ := sint_spec b L (skip b L pos) u2
    rw [gU, if_pos hL]
    by_cases hbl : isSt (b pos) = true ∧ skip b L pos = L
    · -- blanks to the end
      rw [if_pos hbl]
      have e : i = L := by omega
      subst e
      rw [mU, if_neg (by omega), if_neg (by omega), if_pos hbl.2]
    rw [if_neg hbl]
    have hskL : skip b L pos ≠ L := by
      intro e
      apply hbl
      refine ⟨?_, e⟩
      cases h : isSt (b pos)
      · exfalso
        unfold skip at e
        rw [if_neg (fun k => by rw [h] at k; cases k.2)] at e
        omega
      · rfl
    -- what the model says where the rest holds no letter
    have hend : i = L → mU step b L (g + 1) i pos total lo last = (0, false) := by
      intro e
      rw [e, mU, if_neg (by omega), if_neg (by omega), if_neg hskL]
    by_cases hok : (sint b L (skip b L pos)).2.2 = false
    · rw [if_pos hok]
      rcases hi with e | e
      · rw [hend e]
      · by_cases e2 : i = L
        · rw [hend e2]
        · rw [mU, if_pos (by omega), if_neg (by omega)]
          by_cases hr : rank (b i) < lo
          · rw [if_pos hr]
          · rw [if_neg hr, if_pos (Or.inl (by rw [s1, t1]; exact hok))]
    rw [if_neg hok]
    by_cases heL : (sint b L (skip b L pos)).2.1 = L
    · rw [if_pos heL, hend (by omega)]
    rw [if_neg heL]
    by_cases hei : (sint b L (skip b L pos)).2.1 = i
    · have hiL : i < L := by omega
      have hri : 0 ≤ rank (b i) := by rcases hi with e | e <;> omega
      have hnr : ¬ rank (b i) < 0 := by omega
      rw [hei, mU, if_pos hiL, if_neg hnr]
      by_cases hr : rank (b i) < lo
      · rw [if_pos hr, if_pos hr]
      · rw [if_neg hr, if_neg hr, s1, t1, if_neg (fun k => by rcases k with k | k; exact hok k; exact k hei)]
        exact gU_mU step b L (n - 1) (i + 1) _ _ _ f g (by omega) (by omega) (by omega) (by omega) (by omega)
    · have hlt : (sint b L (skip b L pos)).2.1 < i := by omega
      have hpos : pos ≤ (sint b L (skip b L pos)).2.1 := by omega
      have hrk := i3 _ hpos hlt
      simp only [notLet, decide_eq_true_eq] at hrk
      rw [if_pos (by omega)]
      by_cases e2 : i = L
      · rw [hend e2]
      · rw [mU, if_pos (by omega), if_neg (by rcases hi with e | e <;> omega)]
        by_cases hr : rank (b i) < lo
        · rw [if_pos hr]
        · rw [if_neg hr, if_pos (Or.inr (by rw [s1, t1]; exact hei))]
  | _, _, _, _, _, 0, _, _, _, hf, _, _ => by omega
end Go.Proofs.Qxb6600554a.Pl

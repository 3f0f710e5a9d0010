import Derived.Test.Qxb6600554aPlainC
namespace Go.Proofs.Qxb6600554a.Pl

/-! ### A piece of a text, read by itself -/
theorem stop_shift (p : Nat → Bool) (b b' : Nat → Nat) (st L' q : Nat) (hq : q ≤ L') (hb : ∀ j, j < L' → b' j = b (st + j)) : stop p b (st + L') (st + q) = st + stop p b' L' q := by
  obtain ⟨h1, h2, h3, h4⟩ := stop_spec p b' L' q hq
  refine stop_eq p b (st + L') (st + q) _ (by omega) (by omega) (fun j a c => ?_) ?_
  · have := h3 (j - st) (by omega) (by omega)
    rw [hb _ (by omega), show st + (j - st) = j by omega] at this
    exact this
  · by_cases e : stop p b' L' q = L'
    · left; omega
    · rcases h4 with k | k
      · exact absurd k e
      · right; rw [hb _ (by omega)] at k; exact k

theorem skip_shift (b b' : Nat → Nat) (st L' q : Nat) (hq : q ≤ L') (hb : ∀ j, j < L' → b' j = b (st + j)) : skip b (st + L') (st + q) = st + skip b' L' q := by
  unfold skip
  by_cases c : q < L' ∧ isSt (b' q) = true
  · rw [if_pos c, if_pos ⟨by omega, by rw [← hb _ c.1]; exact c.2⟩]
    exact stop_shift isSp b b' st L' q hq hb
  · rw [if_neg c, if_neg]
    rintro ⟨a, d⟩
    exact c ⟨by omega, by rw [hb _ (by omega)]; exact d⟩

theorem num_shift (b b' : Nat → Nat) (st L' q : Nat) (hb : ∀ j, j < L' → b' j = b (st + j)) : ∀ k, q + k ≤ L' → num b' q k = num b (st + q) k
  | 0, _ => rfl
  | k + 1, h => by
    unfold num
    rw [num_shift b b' st L' q hb k (by omega), hb _ (by omega), show st + (q + k) = st + q + k by omega]

theorem signEnd_shift (b b' : Nat → Nat) (st L' q : Nat) (hb : ∀ j, j < L' → b' j = b (st + j)) : signEnd b (st + L') (st + q) = st + signEnd b' L' q := by
  unfold signEnd
  by_cases c : q < L' ∧ b' q = 45
  · rw [if_pos c, if_pos ⟨by omega, by rw [← hb _ c.1]; exact c.2⟩]; omega
  · rw [if_neg c, if_neg]
    rintro ⟨a, d⟩
    exact c ⟨by omega, by rw [hb _ (by omega)]; exact d⟩

theorem sint_shift (b b' : Nat → Nat) (st L' q : Nat) (hq : q ≤ L') (hb : ∀ j, j < L' → b' j = b (st + j)) : sint b (st + L') (st + q) = ((sint b' L' q).1, st + (sint b' L' q).2.1, (sint b' L' q).2.2) := by
  obtain ⟨g1, g2⟩ := signEnd_spec b' L' q hq
  obtain ⟨e1, e2, _, _⟩ := stop_spec isDig b' L' (signEnd b' L' q) g2
  have h1 := signEnd_shift b b' st L' q hb
  have h2 := stop_shift isDig b b' st L' (signEnd b' L' q) g2 hb
  have h3 := num_shift b b' st L' (signEnd b' L' q) hb (stop isDig b' L' (signEnd b' L' q) - signEnd b' L' q) (by omega)
  have h5 : (st + q < st + L' ∧ b (st + q) = 45) ↔ (q < L' ∧ b' q = 45) := by
    constructor
    · rintro ⟨a, d⟩; exact ⟨by omega, by rw [hb _ (by omega)]; exact d⟩
    · rintro ⟨a, d⟩; exact ⟨by omega, by rw [← hb _ a]; exact d⟩
  unfold sint
  rw [h1, h2, show st + stop isDig b' L' (signEnd b' L' q) - (st + signEnd b' L' q) = stop isDig b' L' (signEnd b' L' q) - signEnd b' L' q by omega, ← h3]
  by_cases c : stop isDig b' L' (signEnd b' L' q) = signEnd b' L' q ∨ 2147483647 < num b' (signEnd b' L' q) (stop isDig b' L' (signEnd b' L' q) - signEnd b' L' q)
  · rw [if_pos c, if_pos (by rcases c with k | k; exact Or.inl (by omega); exact Or.inr k)]
  · rw [if_neg c, if_neg (by rintro (k | k); exact c (Or.inl (by omega)); exact c (Or.inr k))]
    by_cases d : q < L' ∧ b' q = 45
    · rw [if_pos d, if_pos (h5.2 d)]
    · rw [if_neg d, if_neg (fun k => d (h5.1 k))]

theorem allDig_shift (b b' : Nat → Nat) (st L' : Nat) (hb : ∀ j, j < L' → b' j = b (st + j)) : ∀ k, k ≤ L' → allDig b' 0 k = allDig b st k
  | 0, _ => rfl
  | k + 1, h => by
    unfold allDig
    rw [allDig_shift b b' st L' hb k (by omega), hb _ (by omega), show st + (0 + k) = st + k by omega]
end Go.Proofs.Qxb6600554a.Pl

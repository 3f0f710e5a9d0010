import Derived.Test.Qxb6600554aWki
import Derived.Test.Qxb6600554aWke
import Derived.Test.Qxb6600554aPlainD
namespace Go.Proofs.Qxb6600554a
open Go.RowKit

theorem piece_size (s : ByteArray) (a b : Nat) (h1 : a ≤ b) (h2 : b ≤ s.size) : (s.extract a b).size = b - a := by
  rw [ByteArray.size_extract]; omega
theorem piece_bt (s : ByteArray) (a b : Nat) (h1 : a ≤ b) (h2 : b ≤ s.size) (j : Nat) (hj : j < b - a) : bt (s.extract a b) j = bt s (a + j) := by
  rw [bt_at _ j (by rw [piece_size s a b h1 h2]; exact hj), bt_at s (a + j) (by omega)]
  congr 1
  exact ByteArray.getElem_extract ..

/-- The term of a piece, read in the whole text. -/
def termAt (b : Nat → Nat) (st i : Nat) : Int × Bool :=
  if (Pl.sint b i (Pl.skip b i st)).2.2 = false ∨ (Pl.sint b i (Pl.skip b i st)).2.1 ≠ i then (0, false) else ((Pl.sint b i (Pl.skip b i st)).1, true)

theorem term_piece (s : ByteArray) (st i : Nat) (h1 : st ≤ i) (h2 : i ≤ s.size) : termOf (bt (s.extract st i)) (s.extract st i).size = termAt (bt s) st i := by
  rw [piece_size s st i h1 h2]
  have hb := piece_bt s st i h1 h2
  have hk := Pl.skip_shift (bt s) (bt (s.extract st i)) st (i - st) 0 (Nat.zero_le _) hb
  obtain ⟨p1, p2, _⟩ := Pl.skip_spec (bt (s.extract st i)) (i - st) 0 (Nat.zero_le _)
  have hs := Pl.sint_shift (bt s) (bt (s.extract st i)) st (i - st) (Pl.skip (bt (s.extract st i)) (i - st) 0) p2 hb
  rw [← hk, show st + (i - st) = i by omega, show st + 0 = st by omega] at hs
  unfold termOf termAt
  rw [hs]
  dsimp only
  by_cases c : (Pl.sint (bt (s.extract st i)) (i - st) (Pl.skip (bt (s.extract st i)) (i - st) 0)).2.2 = false ∨ (Pl.sint (bt (s.extract st i)) (i - st) (Pl.skip (bt (s.extract st i)) (i - st) 0)).2.1 ≠ i - st
  · rw [if_pos c, if_pos (by rcases c with k | k; exact Or.inl k; exact Or.inr (by omega))]
  · rw [if_neg c, if_neg (by rintro (k | k); exact c (Or.inl k); exact c (Or.inr (by omega)))]

theorem blank_piece (s : ByteArray) (st : Nat) (h1 : st < s.size) : decide (0 < (s.extract st s.size).size ∧ Pl.skip (bt (s.extract st s.size)) (s.extract st s.size).size 0 = (s.extract st s.size).size) = decide (Pl.skip (bt s) s.size st = s.size) := by
  rw [piece_size s st s.size (by omega) (Nat.le_refl _)]
  have hb := piece_bt s st s.size (by omega) (Nat.le_refl _)
  have hk := Pl.skip_shift (bt s) (bt (s.extract st s.size)) st (s.size - st) 0 (Nat.zero_le _) hb
  rw [show st + (s.size - st) = s.size by omega, show st + 0 = st by omega] at hk
  rw [hk]
  apply decide_eq_decide.2
  omega

def MSaid (w : World) (R : Int × Bool) (e : Ending) (w' : World) : Prop := e = .returned (.tuple #[.int .i64 R.1, .bool R.2]) ∧ w = w'
theorem m_close {w : World} {R : Int × Bool} {v : Int} {ok : Bool} (h : (v, ok) = R) : MSaid w R (.returned (.tuple #[.int .i64 v, .bool ok])) w := by subst h; exact ⟨rfl, rfl⟩

theorem termAt_bad {b : Nat → Nat} {st i : Nat} (h : (termAt b st i).2 = false) : (Pl.sint b i (Pl.skip b i st)).2.2 = false ∨ (Pl.sint b i (Pl.skip b i st)).2.1 ≠ i := by
  unfold termAt at h
  split at h
  · assumption
  · cases h
theorem termAt_good {b : Nat → Nat} {st i : Nat} (h : (termAt b st i).2 = true) : ¬ ((Pl.sint b i (Pl.skip b i st)).2.2 = false ∨ (Pl.sint b i (Pl.skip b i st)).2.1 ≠ i) ∧ (termAt b st i).1 = (Pl.sint b i (Pl.skip b i st)).1 := by
  unfold termAt at h ⊢
  split at h
  · cases h
  · rename_i c
    rw [if_neg c]
    exact ⟨c, rfl⟩

set_option maxRecDepth 100000 in
set_option maxHeartbeats 2000000 in
theorem units18 (s : ByteArray) (i0 : Nat) (t0 lo0 : Int) (la0 : Nat) (w : World) (hi0 : i0 ≤ s.size) (hs : s.size ≤ 1048576) (hl0 : 0 ≤ lo0) (hl4 : lo0 ≤ 4) :
    Calls Try.prog 18 #[.string s, .int .i64 (i0 : Int), .int .i64 t0, .int .i64 lo0, .int .u8 (la0 : Int)] w (MSaid w (Pl.mU stepU (bt s) s.size (s.size - i0 + 1) i0 i0 t0 lo0 la0)) := by
  generalize hR : Pl.mU stepU (bt s) s.size (s.size - i0 + 1) i0 i0 t0 lo0 la0 = R
  have HR0 := hide hR
  clear hR
  go_enter Try.func18, Try.ntmps18
  go_wp2
  go_loop [2, 3, 4, 12, 13] (fun tt al la st x => ∃ (i start last f : Nat) (total lo : Int), i ≤ s.size ∧ start ≤ i ∧ 0 ≤ lo ∧ lo ≤ 4 ∧ tt = .int .i64 total ∧ al = .int .i64 lo ∧ la = .int .u8 (last : Int) ∧ st = .int .i64 (start : Int) ∧ x = .int .i64 (i : Int) ∧ (s.size - i < f + 1 ∧ Pl.mU stepU (bt s) s.size (f + 1) i start total lo last = R)) (fun _ _ _ _ x => s.size - (intOf x).toNat)
  case atStart => exact ⟨i0, i0, la0, s.size - i0, t0, lo0, hi0, Nat.le_refl _, hl0, hl4, rfl, rfl, rfl, rfl, rfl, by omega, HR0.out⟩
  case round =>
    obtain ⟨i, start, last, f, total, lo, i1, i2, i3, i4, rfl, rfl, rfl, rfl, rfl, hf, hR⟩ := hrel
    by_cases hil : i < s.size
    · have l1 : (i : Int) < (s.size : Int) := by omega
      have hb := bt_at s i hil
      have hcr := fun W => rank35 s[i].toNat W
      rw [← hb] at hcr
      rw [Pl.mU, if_pos hil] at hR
      by_cases hneg : Pl.rank (bt s i) < 0
      · rw [if_pos hneg] at hR
        have HR := hide hR
        have HC := hide hcr
        have HB := hide hb
        clear hcr hb hR
        generalize Pl.rank (bt s i) = r at *
        go_wp2_with (go_at_call 35; rw [← HB.out]; refine (HC.out _).mono ?_; rintro e w1 ⟨rfl, hw⟩; subst hw)
        go_round
        case rel =>
          obtain ⟨f, rfl⟩ : ∃ k, f = k + 1 := ⟨f - 1, by omega⟩
          exact ⟨i + 1, start, last, f, total, lo, by omega, by omega, i3, i4, rfl, rfl, rfl, rfl, by go_num, by omega, HR.out⟩
        case measure => simp [intOf]; omega
      · rw [if_neg hneg] at hR
        have hrb : 0 ≤ Pl.rank (bt s i) ∧ Pl.rank (bt s i) ≤ 3 := by rcases rank_cases (bt s i) with h | h | h | h | h <;> omega
        by_cases hlow : Pl.rank (bt s i) < lo
        · rw [if_pos hlow] at hR
          have HR := hide hR
          have HC := hide hcr
          have HB := hide hb
          clear hcr hb hR
          generalize Pl.rank (bt s i) = r at *
          go_wp2_with (go_at_call 35; rw [← HB.out]; refine (HC.out _).mono ?_; rintro e w1 ⟨rfl, hw⟩; subst hw)
          go_ret2
          exact m_close HR.out
        · rw [if_neg hlow] at hR
          have hterm := fun W => term38 (s.extract start i) W (by rw [piece_size s start i i2 i1]; omega)
          rw [term_piece s start i i2 i1] at hterm
          have lsl1 : (start : Int) ≤ (i : Int) := by omega
          have lsl2 : (i : Int) ≤ (s.size : Int) := by omega
          cases hok : (termAt (bt s) start i).2
          · rw [if_pos (termAt_bad hok)] at hR
            rw [hok] at hterm
            generalize (termAt (bt s) start i).1 = tv at hterm
            have HT := hide hterm
            have HR := hide hR
            have HC := hide hcr
            have HB := hide hb
            clear hcr hb hR hterm hok
            generalize Pl.rank (bt s i) = r at *
            go_wp2_with (first | (go_at_call 35; rw [← HB.out]; refine (HC.out _).mono ?_; rintro e w1 ⟨rfl, hw⟩; subst hw) | (go_at_call 38; refine (HT.out _).mono ?_; rintro e w1 ⟨rfl, hw⟩; subst hw))
            go_ret2
            exact m_close HR.out
          · obtain ⟨hg1, hg2⟩ := termAt_good hok
            rw [if_neg hg1] at hR
            rw [hok, hg2] at hterm
            generalize (Pl.sint (bt s) i (Pl.skip (bt s) i start)).1 = tv at hterm hR
            have hsc := fun W => scale36 (Pl.rank (bt s i)).toNat W
            rw [show ((Pl.rank (bt s i)).toNat : Int) = Pl.rank (bt s i) by omega] at hsc
            have HSC := hide hsc
            have HT := hide hterm
            have HR := hide hR
            have HC := hide hcr
            have HB := hide hb
            clear hcr hb hR hterm hok hg1 hg2 hsc
            generalize hr : Pl.rank (bt s i) = r at *
            have HBt := hide (bt_at s i hil)
            clear hr
            go_wp2_with (first | (go_at_call 35; rw [← HB.out]; refine (HC.out _).mono ?_; rintro e w1 ⟨rfl, hw⟩; subst hw) | (go_at_call 38; refine (HT.out _).mono ?_; rintro e w1 ⟨rfl, hw⟩; subst hw) | (go_at_call 36; refine (HSC.out _).mono ?_; rintro e w1 ⟨rfl, hw⟩; subst hw))
            go_round
            case rel =>
              obtain ⟨f, rfl⟩ : ∃ k, f = k + 1 := ⟨f - 1, by omega⟩
              refine ⟨i + 1, i + 1, bt s i, f, stepU total tv (Pl.scale r), r + 1, by omega, by omega, by omega, by omega, rfl, by go_num, ?_, by go_num, by go_num, by omega, HR.out⟩
              rw [HBt.out]
            case measure => simp [intOf]; omega
    · have l1 : ¬ ((i : Int) < (s.size : Int)) := by omega
      have ei : i = s.size := by omega
      rw [Pl.mU, if_neg hil] at hR
      by_cases hst : start = s.size
      · rw [if_pos hst] at hR
        have e1 : ((start : Int) == (s.size : Int)) = true := by rw [beq_iff_eq]; omega
        have HR := hide hR
        clear hR hst ei
        go_wp2
        go_ret2
        exact m_close HR.out
      · rw [if_neg hst] at hR
        have e1 : ((start : Int) == (s.size : Int)) = false := beq_eq_false_iff_ne.2 (by omega)
        have hbl := fun W => blankRun39 (s.extract start s.size) W (by rw [piece_size s start s.size (by omega) (Nat.le_refl _)]; omega)
        rw [blank_piece s start (by omega)] at hbl
        have lsl1 : (start : Int) ≤ (s.size : Int) := by omega
        by_cases hk : Pl.skip (bt s) s.size start = s.size
        · rw [if_pos hk] at hR
          rw [decide_eq_true hk] at hbl
          have HBL := hide hbl
          by_cases hla : last = 115
          · have e2 : ((last : Int) != 115) = false := by rw [bne_eq_false_iff_eq]; omega
            rw [show decide (last ≠ 115) = false from decide_eq_false (fun k => k hla)] at hR
            have HR := hide hR
            clear hR hst hla hbl ei hk
            go_wp2_with (go_at_call 39; refine (HBL.out _).mono ?_; rintro e w1 ⟨rfl, hw⟩; subst hw)
            go_ret2
            exact m_close HR.out
          · have e2 : ((last : Int) != 115) = true := by rw [bne_iff_ne]; omega
            rw [show decide (last ≠ 115) = true from decide_eq_true hla] at hR
            have HR := hide hR
            clear hR hst hla hbl ei hk
            go_wp2_with (go_at_call 39; refine (HBL.out _).mono ?_; rintro e w1 ⟨rfl, hw⟩; subst hw)
            go_ret2
            exact m_close HR.out
        · rw [if_neg hk] at hR
          rw [decide_eq_false hk] at hbl
          have HBL := hide hbl
          have HR := hide hR
          clear hR hst hbl ei hk
          go_wp2_with (go_at_call 39; refine (HBL.out _).mono ?_; rintro e w1 ⟨rfl, hw⟩; subst hw)
          go_ret2
          exact m_close HR.out
end Go.Proofs.Qxb6600554a

import Derived.Test.Qxb6600554aWka
namespace Go.Proofs.Qxb6600554a
open Go.RowKit

set_option maxRecDepth 100000 in
set_option maxHeartbeats 400000 in
theorem isDig45 (c : Nat) (w : World) : Calls Try.prog 45 #[.int .u8 (c : Int)] w fun e w' => e = .returned (.bool (Pl.isDig c)) ∧ w = w' := by
  by_cases h1 : 48 ≤ c
  · have e1 : (48 : Int) ≤ (c : Int) := by omega
    go_enter Try.func45, Try.ntmps45
    go_wp2
    all_goals go_ret
    all_goals exact ⟨by simp [Pl.isDig, h1]; omega, rfl⟩
  · have e1 : ¬ ((48 : Int) ≤ (c : Int)) := by omega
    go_enter Try.func45, Try.ntmps45
    go_wp2
    all_goals go_ret
    all_goals exact ⟨by simp [Pl.isDig, h1], rfl⟩

/-! ### The model's signed number -/
theorem sint_none (b : Nat → Nat) (L i st : Nat) (hse : Pl.signEnd b L i = st) (he : Pl.stop Pl.isDig b L st = st) : Pl.sint b L i = (0, st, false) := by
  unfold Pl.sint
  rw [hse, he, if_pos (Or.inl rfl)]

theorem sint_model (b : Nat → Nat) (L i st j g : Nat) (hse : Pl.signEnd b L i = st) (he : Pl.stop Pl.isDig b L st = j) (g1 : st ≤ g) (g2 : g + 1 ≤ j) (hz : ∀ m, st ≤ m → m < g → b m = 48) (hst : g + 1 = j ∨ b g ≠ 48)
    (hd : ∀ m, st ≤ m → m < j → Pl.isDig (b m) = true) :
    (10 < j - g → Pl.sint b L i = (0, j, false)) ∧
    (¬ 10 < j - g → (2147483647 < Pl.num b g (j - g) → Pl.sint b L i = (0, j, false)) ∧
      (¬ 2147483647 < Pl.num b g (j - g) → (i < L ∧ b i = 45) → Pl.sint b L i = (-(Pl.num b g (j - g) : Int), j, true)) ∧
      (¬ 2147483647 < Pl.num b g (j - g) → ¬ (i < L ∧ b i = 45) → Pl.sint b L i = ((Pl.num b g (j - g) : Int), j, true))) := by
  have hn : Pl.num b st (j - st) = Pl.num b g (j - g) := by
    have := Pl.num_zeros b st (g - st) (j - g) (fun m a c => hz m a (by omega))
    rw [show g - st + (j - g) = j - st by omega, show st + (g - st) = g by omega] at this
    exact this
  unfold Pl.sint
  rw [hse, he, hn]
  refine ⟨fun h => ?_, fun _ => ⟨fun h => ?_, fun h k => ?_, fun h k => ?_⟩⟩
  · rw [if_pos]
    right
    have h48 : b g ≠ 48 := by
      rcases hst with k | k
      · omega
      · exact k
    have := Pl.num_ge b g h48 (hd g g1 (by omega)) (j - g - 1)
    rw [show j - g - 1 + 1 = j - g by omega] at this
    have h10 : 10 ^ 10 ≤ 10 ^ (j - g - 1) := Nat.pow_le_pow_right (by decide) (by omega)
    omega
  · rw [if_pos (Or.inr h)]
  · rw [if_neg (by omega), if_pos k]
  · rw [if_neg (by omega), if_neg k]

theorem sint_close {b : Nat → Nat} {L i j : Nat} {v : Int} {ok : Bool} {w : World} (h : Pl.sint b L i = (v, j, ok)) :
    Ending.returned (.tuple #[.int .i64 v, .int .i64 (j : Int), .bool ok]) = .returned (.tuple #[.int .i64 (Pl.sint b L i).1, .int .i64 ((Pl.sint b L i).2.1 : Int), .bool (Pl.sint b L i).2.2]) ∧ w = w := by
  rw [h]
  exact ⟨rfl, rfl⟩

set_option maxRecDepth 100000 in
set_option maxHeartbeats 4000000 in
theorem sint32_neg (s : ByteArray) (i : Nat) (w : World) (_hi : i ≤ s.size) (hs : s.size ≤ 1048576) (hng : i < s.size ∧ bt s i = 45) :
    Calls Try.prog 32 #[.string s, .int .i64 (i : Int)] w fun e w' => e = .returned (.tuple #[.int .i64 (Pl.sint (bt s) s.size i).1, .int .i64 ((Pl.sint (bt s) s.size i).2.1 : Int), .bool (Pl.sint (bt s) s.size i).2.2]) ∧ w = w' := by
  have hlt := hng.1
  have l1 : (i : Int) < (s.size : Int) := by omega
  have e45 : ((s[i].toNat : Int) == 45) = true := by rw [← bt_at s i hlt]; simp [hng.2]
  have HSE : Hid (Pl.signEnd (bt s) s.size i = i + 1) := by show _ = _; unfold Pl.signEnd; rw [if_pos hng]
  have HNG := hide hng
  clear hng
  go_enter Try.func32, Try.ntmps32
  go_wp2
  go_loop [1] (fun x => ∃ j : Nat, (i + 1) ≤ j ∧ j ≤ s.size ∧ x = .int .i64 (j : Int) ∧ ∀ m, (i + 1) ≤ m → m < j → Pl.isDig (bt s m) = true) (fun x => s.size - (intOf x).toNat)
  case atStart => exact ⟨(i + 1), Nat.le_refl _, by omega, by go_num, fun m a b => by omega⟩
  case round =>
    obtain ⟨j, j1, j2, rfl, hd⟩ := hrel
    have HD := hide hd
    clear hd
    by_cases hjl : j < s.size
    · have l2 : (j : Int) < (s.size : Int) := by omega
      have hb := bt_at s j hjl
      by_cases hdg : Pl.isDig (bt s j) = true
      · have hc := fun W => isDig45 s[j].toNat W
        rw [← hb, hdg] at hc
        have HG := hide hdg
        have HC := hide hc
        clear hc hdg
        have HBt := hide hb
        clear hb
        go_wp2_with (go_at_call 45; rw [← HBt.out]; refine (HC.out _).mono ?_; rintro e w1 ⟨rfl, hw⟩; subst hw)
        go_round
        case rel =>
          refine ⟨j + 1, by omega, by omega, by go_num, fun m a b => ?_⟩
          by_cases e : m = j
          · rw [e]; exact HG.out
          · exact HD.out m a (by omega)
        case measure => simp [intOf]; omega
      · have hdf : Pl.isDig (bt s j) = false := by
          cases h : Pl.isDig (bt s j)
          · rfl
          · exact absurd h hdg
        have hc := fun W => isDig45 s[j].toNat W
        rw [← hb, hdf] at hc
        have HE := hide (Pl.stop_eq Pl.isDig (bt s) s.size (i + 1) j j1 j2 HD.out (Or.inr hdf))
        have HC := hide hc
        clear hc hdg hdf
        have HBt := hide hb
        clear hb
        by_cases hj0 : j = (i + 1)
        · have HX := hide (sint_none (bt s) s.size i (i + 1) HSE.out (by rw [HE.out, hj0]))
          clear HE HD
          subst hj0
          go_wp2_with (go_at_call 45; rw [← HBt.out]; refine (HC.out _).mono ?_; rintro e w1 ⟨rfl, hw⟩; subst hw)
          go_ret3
          exact sint_close HX.out
        · have ej : ((j : Int) == (i : Int) + 1) = false := beq_eq_false_iff_ne.2 (by omega)
          go_wp2_with (go_at_call 45; rw [← HBt.out]; refine (HC.out _).mono ?_; rintro e w1 ⟨rfl, hw⟩; subst hw)
          go_loop [9] (fun x => ∃ g : Nat, (i + 1) ≤ g ∧ g + 1 ≤ j ∧ x = .int .i64 (g : Int) ∧ ∀ m, (i + 1) ≤ m → m < g → bt s m = 48) (fun x => j - (intOf x).toNat)
          case atStart => exact ⟨(i + 1), Nat.le_refl _, by omega, by go_num, fun m a b => by omega⟩
          case round =>
            obtain ⟨g, g1, g2, rfl, hz⟩ := hrel
            have HZ := hide hz
            clear hz
            have hgs : g < s.size := by omega
            have hbg := bt_at s g hgs
            by_cases hgl : g + 1 < j
            · have l3 : (g : Int) < (j : Int) - 1 := by omega
              by_cases h48 : bt s g = 48
              · have e48 : ((s[g].toNat : Int) == 48) = true := by rw [← hbg]; simp [h48]
                have H48 := hide h48
                clear h48 hbg
                go_wp2
                go_round
                case rel =>
                  refine ⟨g + 1, by omega, by omega, by go_num, fun m a b => ?_⟩
                  by_cases e : m = g
                  · rw [e]; exact H48.out
                  · exact HZ.out m a (by omega)
                case measure => simp [intOf]; omega
              · have e48 : ((s[g].toNat : Int) == 48) = false := by rw [← hbg, beq_eq_false_iff_ne]; omega
                have HST : Hid (g + 1 = j ∨ bt s g ≠ 48) := Or.inr h48
                clear h48 hbg
                have HM := hide (sint_model (bt s) s.size i (i + 1) j g HSE.out HE.out g1 g2 HZ.out HST.out HD.out)
                by_cases hlong : 10 < j - g
                · have e10 : (10 : Int) < (j : Int) - (g : Int) := by omega
                  have HX := hide (HM.out.1 hlong)
                  go_wp2
                  go_ret3
                  exact sint_close HX.out
                · have e10 : (j : Int) - (g : Int) ≤ 10 := by omega
                  go_wp2
                  go_loop [10, 11] (fun v x => ∃ k : Nat, g ≤ k ∧ k ≤ j ∧ x = .int .i64 (k : Int) ∧ v = .int .i64 (Pl.num (bt s) g (k - g) : Int)) (fun _ x => j - (intOf x).toNat)
                  case atStart => exact ⟨g, Nat.le_refl _, by omega, by go_num, by simp [Pl.num]⟩
                  case round =>
                    obtain ⟨k, k1, k2, rfl, rfl⟩ := hrel
                    have hnum := Pl.num_lt (bt s) g (k - g) (fun m a c => HD.out m (by omega) (by omega))
                    have hpow : 10 ^ (k - g) ≤ 10 ^ 10 := Nat.pow_le_pow_right (by decide) (by omega)
                    have hN : (Pl.num (bt s) g (k - g) : Int) ≤ 9999999999 := by omega
                    clear hnum hpow
                    by_cases hkj : k < j
                    · have l3 : (k : Int) < (j : Int) := by omega
                      have hks : k < s.size := by omega
                      have hdg := HD.out k (by omega) hkj
                      have hbk := bt_at s k hks
                      have HNS : Hid (Pl.num (bt s) g (k + 1 - g) = Pl.num (bt s) g (k - g) * 10 + (s[k].toNat - 48)) := by
                        show _ = _
                        rw [show k + 1 - g = (k - g) + 1 by omega, Pl.num, show g + (k - g) = k by omega, hbk]
                      simp only [Pl.isDig, Bool.and_eq_true, decide_eq_true_eq, hbk] at hdg
                      obtain ⟨x1, x2⟩ := hdg
                      have x1' : (48 : Int) ≤ (s[k].toNat : Int) := by omega
                      have x2' : (s[k].toNat : Int) ≤ 57 := by omega
                      clear hbk
                      generalize Pl.num (bt s) g (k - g) = N0 at *
                      go_wp2
                      go_round
                      case rel => exact ⟨k + 1, by omega, by omega, by go_num, by rw [HNS.out]; congr 1; omega⟩
                      case measure => simp [intOf]; omega
                    · have l3 : ¬ ((k : Int) < (j : Int)) := by omega
                      have ek : k = j := by omega
                      have HX := hide (HM.out.2 hlong)
                      subst ek
                      generalize Pl.num (bt s) g (k - g) = N0 at *
                      by_cases hbig : 2147483647 < N0
                      · have eb : (2147483647 : Int) < (N0 : Int) := by omega
                        have HY := hide (HX.out.1 hbig)
                        go_wp2
                        go_ret3
                        exact sint_close HY.out
                      · have eb : (N0 : Int) ≤ 2147483647 := by omega
                        have HY := hide (HX.out.2.1 hbig HNG.out)
                        go_wp2
                        go_ret3
                        exact sint_close HY.out
            · have l3 : ¬ ((g : Int) < (j : Int) - 1) := by omega
              have HST : Hid (g + 1 = j ∨ bt s g ≠ 48) := Or.inl (by omega)
              clear hbg
              have HM := hide (sint_model (bt s) s.size i (i + 1) j g HSE.out HE.out g1 g2 HZ.out HST.out HD.out)
              by_cases hlong : 10 < j - g
              · have e10 : (10 : Int) < (j : Int) - (g : Int) := by omega
                have HX := hide (HM.out.1 hlong)
                go_wp2
                go_ret3
                exact sint_close HX.out
              · have e10 : (j : Int) - (g : Int) ≤ 10 := by omega
                go_wp2
                go_loop [10, 11] (fun v x => ∃ k : Nat, g ≤ k ∧ k ≤ j ∧ x = .int .i64 (k : Int) ∧ v = .int .i64 (Pl.num (bt s) g (k - g) : Int)) (fun _ x => j - (intOf x).toNat)
                case atStart => exact ⟨g, Nat.le_refl _, by omega, by go_num, by simp [Pl.num]⟩
                case round =>
                  obtain ⟨k, k1, k2, rfl, rfl⟩ := hrel
                  have hnum := Pl.num_lt (bt s) g (k - g) (fun m a c => HD.out m (by omega) (by omega))
                  have hpow : 10 ^ (k - g) ≤ 10 ^ 10 := Nat.pow_le_pow_right (by decide) (by omega)
                  have hN : (Pl.num (bt s) g (k - g) : Int) ≤ 9999999999 := by omega
                  clear hnum hpow
                  by_cases hkj : k < j
                  · have l3 : (k : Int) < (j : Int) := by omega
                    have hks : k < s.size := by omega
                    have hdg := HD.out k (by omega) hkj
                    have hbk := bt_at s k hks
                    have HNS : Hid (Pl.num (bt s) g (k + 1 - g) = Pl.num (bt s) g (k - g) * 10 + (s[k].toNat - 48)) := by
                      show _ = _
                      rw [show k + 1 - g = (k - g) + 1 by omega, Pl.num, show g + (k - g) = k by omega, hbk]
                    simp only [Pl.isDig, Bool.and_eq_true, decide_eq_true_eq, hbk] at hdg
                    obtain ⟨x1, x2⟩ := hdg
                    have x1' : (48 : Int) ≤ (s[k].toNat : Int) := by omega
                    have x2' : (s[k].toNat : Int) ≤ 57 := by omega
                    clear hbk
                    generalize Pl.num (bt s) g (k - g) = N0 at *
                    go_wp2
                    go_round
                    case rel => exact ⟨k + 1, by omega, by omega, by go_num, by rw [HNS.out]; congr 1; omega⟩
                    case measure => simp [intOf]; omega
                  · have l3 : ¬ ((k : Int) < (j : Int)) := by omega
                    have ek : k = j := by omega
                    have HX := hide (HM.out.2 hlong)
                    subst ek
                    generalize Pl.num (bt s) g (k - g) = N0 at *
                    by_cases hbig : 2147483647 < N0
                    · have eb : (2147483647 : Int) < (N0 : Int) := by omega
                      have HY := hide (HX.out.1 hbig)
                      go_wp2
                      go_ret3
                      exact sint_close HY.out
                    · have eb : (N0 : Int) ≤ 2147483647 := by omega
                      have HY := hide (HX.out.2.1 hbig HNG.out)
                      go_wp2
                      go_ret3
                      exact sint_close HY.out
    · have l2 : ¬ ((j : Int) < (s.size : Int)) := by omega
      have HE := hide (Pl.stop_eq Pl.isDig (bt s) s.size (i + 1) j j1 j2 HD.out (Or.inl (by omega)))
      by_cases hj0 : j = (i + 1)
      · have HX := hide (sint_none (bt s) s.size i (i + 1) HSE.out (by rw [HE.out, hj0]))
        clear HE HD
        subst hj0
        go_wp2
        go_ret3
        exact sint_close HX.out
      · have ej : ((j : Int) == (i : Int) + 1) = false := beq_eq_false_iff_ne.2 (by omega)
        go_wp2
        go_loop [9] (fun x => ∃ g : Nat, (i + 1) ≤ g ∧ g + 1 ≤ j ∧ x = .int .i64 (g : Int) ∧ ∀ m, (i + 1) ≤ m → m < g → bt s m = 48) (fun x => j - (intOf x).toNat)
        case atStart => exact ⟨(i + 1), Nat.le_refl _, by omega, by go_num, fun m a b => by omega⟩
        case round =>
          obtain ⟨g, g1, g2, rfl, hz⟩ := hrel
          have HZ := hide hz
          clear hz
          have hgs : g < s.size := by omega
          have hbg := bt_at s g hgs
          by_cases hgl : g + 1 < j
          · have l3 : (g : Int) < (j : Int) - 1 := by omega
            by_cases h48 : bt s g = 48
            · have e48 : ((s[g].toNat : Int) == 48) = true := by rw [← hbg]; simp [h48]
              have H48 := hide h48
              clear h48 hbg
              go_wp2
              go_round
              case rel =>
                refine ⟨g + 1, by omega, by omega, by go_num, fun m a b => ?_⟩
                by_cases e : m = g
                · rw [e]; exact H48.out
                · exact HZ.out m a (by omega)
              case measure => simp [intOf]; omega
            · have e48 : ((s[g].toNat : Int) == 48) = false := by rw [← hbg, beq_eq_false_iff_ne]; omega
              have HST : Hid (g + 1 = j ∨ bt s g ≠ 48) := Or.inr h48
              clear h48 hbg
              have HM := hide (sint_model (bt s) s.size i (i + 1) j g HSE.out HE.out g1 g2 HZ.out HST.out HD.out)
              by_cases hlong : 10 < j - g
              · have e10 : (10 : Int) < (j : Int) - (g : Int) := by omega
                have HX := hide (HM.out.1 hlong)
                go_wp2
                go_ret3
                exact sint_close HX.out
              · have e10 : (j : Int) - (g : Int) ≤ 10 := by omega
                go_wp2
                go_loop [10, 11] (fun v x => ∃ k : Nat, g ≤ k ∧ k ≤ j ∧ x = .int .i64 (k : Int) ∧ v = .int .i64 (Pl.num (bt s) g (k - g) : Int)) (fun _ x => j - (intOf x).toNat)
                case atStart => exact ⟨g, Nat.le_refl _, by omega, by go_num, by simp [Pl.num]⟩
                case round =>
                  obtain ⟨k, k1, k2, rfl, rfl⟩ := hrel
                  have hnum := Pl.num_lt (bt s) g (k - g) (fun m a c => HD.out m (by omega) (by omega))
                  have hpow : 10 ^ (k - g) ≤ 10 ^ 10 := Nat.pow_le_pow_right (by decide) (by omega)
                  have hN : (Pl.num (bt s) g (k - g) : Int) ≤ 9999999999 := by omega
                  clear hnum hpow
                  by_cases hkj : k < j
                  · have l3 : (k : Int) < (j : Int) := by omega
                    have hks : k < s.size := by omega
                    have hdg := HD.out k (by omega) hkj
                    have hbk := bt_at s k hks
                    have HNS : Hid (Pl.num (bt s) g (k + 1 - g) = Pl.num (bt s) g (k - g) * 10 + (s[k].toNat - 48)) := by
                      show _ = _
                      rw [show k + 1 - g = (k - g) + 1 by omega, Pl.num, show g + (k - g) = k by omega, hbk]
                    simp only [Pl.isDig, Bool.and_eq_true, decide_eq_true_eq, hbk] at hdg
                    obtain ⟨x1, x2⟩ := hdg
                    have x1' : (48 : Int) ≤ (s[k].toNat : Int) := by omega
                    have x2' : (s[k].toNat : Int) ≤ 57 := by omega
                    clear hbk
                    generalize Pl.num (bt s) g (k - g) = N0 at *
                    go_wp2
                    go_round
                    case rel => exact ⟨k + 1, by omega, by omega, by go_num, by rw [HNS.out]; congr 1; omega⟩
                    case measure => simp [intOf]; omega
                  · have l3 : ¬ ((k : Int) < (j : Int)) := by omega
                    have ek : k = j := by omega
                    have HX := hide (HM.out.2 hlong)
                    subst ek
                    generalize Pl.num (bt s) g (k - g) = N0 at *
                    by_cases hbig : 2147483647 < N0
                    · have eb : (2147483647 : Int) < (N0 : Int) := by omega
                      have HY := hide (HX.out.1 hbig)
                      go_wp2
                      go_ret3
                      exact sint_close HY.out
                    · have eb : (N0 : Int) ≤ 2147483647 := by omega
                      have HY := hide (HX.out.2.1 hbig HNG.out)
                      go_wp2
                      go_ret3
                      exact sint_close HY.out
          · have l3 : ¬ ((g : Int) < (j : Int) - 1) := by omega
            have HST : Hid (g + 1 = j ∨ bt s g ≠ 48) := Or.inl (by omega)
            clear hbg
            have HM := hide (sint_model (bt s) s.size i (i + 1) j g HSE.out HE.out g1 g2 HZ.out HST.out HD.out)
            by_cases hlong : 10 < j - g
            · have e10 : (10 : Int) < (j : Int) - (g : Int) := by omega
              have HX := hide (HM.out.1 hlong)
              go_wp2
              go_ret3
              exact sint_close HX.out
            · have e10 : (j : Int) - (g : Int) ≤ 10 := by omega
              go_wp2
              go_loop [10, 11] (fun v x => ∃ k : Nat, g ≤ k ∧ k ≤ j ∧ x = .int .i64 (k : Int) ∧ v = .int .i64 (Pl.num (bt s) g (k - g) : Int)) (fun _ x => j - (intOf x).toNat)
              case atStart => exact ⟨g, Nat.le_refl _, by omega, by go_num, by simp [Pl.num]⟩
              case round =>
                obtain ⟨k, k1, k2, rfl, rfl⟩ := hrel
                have hnum := Pl.num_lt (bt s) g (k - g) (fun m a c => HD.out m (by omega) (by omega))
                have hpow : 10 ^ (k - g) ≤ 10 ^ 10 := Nat.pow_le_pow_right (by decide) (by omega)
                have hN : (Pl.num (bt s) g (k - g) : Int) ≤ 9999999999 := by omega
                clear hnum hpow
                by_cases hkj : k < j
                · have l3 : (k : Int) < (j : Int) := by omega
                  have hks : k < s.size := by omega
                  have hdg := HD.out k (by omega) hkj
                  have hbk := bt_at s k hks
                  have HNS : Hid (Pl.num (bt s) g (k + 1 - g) = Pl.num (bt s) g (k - g) * 10 + (s[k].toNat - 48)) := by
                    show _ = _
                    rw [show k + 1 - g = (k - g) + 1 by omega, Pl.num, show g + (k - g) = k by omega, hbk]
                  simp only [Pl.isDig, Bool.and_eq_true, decide_eq_true_eq, hbk] at hdg
                  obtain ⟨x1, x2⟩ := hdg
                  have x1' : (48 : Int) ≤ (s[k].toNat : Int) := by omega
                  have x2' : (s[k].toNat : Int) ≤ 57 := by omega
                  clear hbk
                  generalize Pl.num (bt s) g (k - g) = N0 at *
                  go_wp2
                  go_round
                  case rel => exact ⟨k + 1, by omega, by omega, by go_num, by rw [HNS.out]; congr 1; omega⟩
                  case measure => simp [intOf]; omega
                · have l3 : ¬ ((k : Int) < (j : Int)) := by omega
                  have ek : k = j := by omega
                  have HX := hide (HM.out.2 hlong)
                  subst ek
                  generalize Pl.num (bt s) g (k - g) = N0 at *
                  by_cases hbig : 2147483647 < N0
                  · have eb : (2147483647 : Int) < (N0 : Int) := by omega
                    have HY := hide (HX.out.1 hbig)
                    go_wp2
                    go_ret3
                    exact sint_close HY.out
                  · have eb : (N0 : Int) ≤ 2147483647 := by omega
                    have HY := hide (HX.out.2.1 hbig HNG.out)
                    go_wp2
                    go_ret3
                    exact sint_close HY.out

set_option maxRecDepth 100000 in
set_option maxHeartbeats 4000000 in
theorem sint32_pos (s : ByteArray) (i : Nat) (w : World) (hi : i ≤ s.size) (hs : s.size ≤ 1048576) (hlt : i < s.size) (hng : ¬ bt s i = 45) :
    Calls Try.prog 32 #[.string s, .int .i64 (i : Int)] w fun e w' => e = .returned (.tuple #[.int .i64 (Pl.sint (bt s) s.size i).1, .int .i64 ((Pl.sint (bt s) s.size i).2.1 : Int), .bool (Pl.sint (bt s) s.size i).2.2]) ∧ w = w' := by
  have l1 : (i : Int) < (s.size : Int) := by omega
  have e45 : ((s[i].toNat : Int) == 45) = false := by rw [← bt_at s i hlt, beq_eq_false_iff_ne]; omega
  have HNG : Hid (¬ (i < s.size ∧ bt s i = 45)) := fun k => hng k.2
  have HSE : Hid (Pl.signEnd (bt s) s.size i = i) := by show _ = _; unfold Pl.signEnd; rw [if_neg HNG.out]
  clear hng
  go_enter Try.func32, Try.ntmps32
  go_wp2
  go_loop [1] (fun x => ∃ j : Nat, i ≤ j ∧ j ≤ s.size ∧ x = .int .i64 (j : Int) ∧ ∀ m, i ≤ m → m < j → Pl.isDig (bt s m) = true) (fun x => s.size - (intOf x).toNat)
  case atStart => exact ⟨i, Nat.le_refl _, by omega, by go_num, fun m a b => by omega⟩
  case round =>
    obtain ⟨j, j1, j2, rfl, hd⟩ := hrel
    have HD := hide hd
    clear hd
    by_cases hjl : j < s.size
    · have l2 : (j : Int) < (s.size : Int) := by omega
      have hb := bt_at s j hjl
      by_cases hdg : Pl.isDig (bt s j) = true
      · have hc := fun W => isDig45 s[j].toNat W
        rw [← hb, hdg] at hc
        have HG := hide hdg
        have HC := hide hc
        clear hc hdg
        have HBt := hide hb
        clear hb
        go_wp2_with (go_at_call 45; rw [← HBt.out]; refine (HC.out _).mono ?_; rintro e w1 ⟨rfl, hw⟩; subst hw)
        go_round
        case rel =>
          refine ⟨j + 1, by omega, by omega, by go_num, fun m a b => ?_⟩
          by_cases e : m = j
          · rw [e]; exact HG.out
          · exact HD.out m a (by omega)
        case measure => simp [intOf]; omega
      · have hdf : Pl.isDig (bt s j) = false := by
          cases h : Pl.isDig (bt s j)
          · rfl
          · exact absurd h hdg
        have hc := fun W => isDig45 s[j].toNat W
        rw [← hb, hdf] at hc
        have HE := hide (Pl.stop_eq Pl.isDig (bt s) s.size i j j1 j2 HD.out (Or.inr hdf))
        have HC := hide hc
        clear hc hdg hdf
        have HBt := hide hb
        clear hb
        by_cases hj0 : j = i
        · have HX := hide (sint_none (bt s) s.size i i HSE.out (by rw [HE.out, hj0]))
          clear HE HD
          subst hj0
          go_wp2_with (go_at_call 45; rw [← HBt.out]; refine (HC.out _).mono ?_; rintro e w1 ⟨rfl, hw⟩; subst hw)
          go_ret3
          exact sint_close HX.out
        · have ej : ((j : Int) == (i : Int)) = false := beq_eq_false_iff_ne.2 (by omega)
          go_wp2_with (go_at_call 45; rw [← HBt.out]; refine (HC.out _).mono ?_; rintro e w1 ⟨rfl, hw⟩; subst hw)
          go_loop [9] (fun x => ∃ g : Nat, i ≤ g ∧ g + 1 ≤ j ∧ x = .int .i64 (g : Int) ∧ ∀ m, i ≤ m → m < g → bt s m = 48) (fun x => j - (intOf x).toNat)
          case atStart => exact ⟨i, Nat.le_refl _, by omega, by go_num, fun m a b => by omega⟩
          case round =>
            obtain ⟨g, g1, g2, rfl, hz⟩ := hrel
            have HZ := hide hz
            clear hz
            have hgs : g < s.size := by omega
            have hbg := bt_at s g hgs
            by_cases hgl : g + 1 < j
            · have l3 : (g : Int) < (j : Int) - 1 := by omega
              by_cases h48 : bt s g = 48
              · have e48 : ((s[g].toNat : Int) == 48) = true := by rw [← hbg]; simp [h48]
                have H48 := hide h48
                clear h48 hbg
                go_wp2
                go_round
                case rel =>
                  refine ⟨g + 1, by omega, by omega, by go_num, fun m a b => ?_⟩
                  by_cases e : m = g
                  · rw [e]; exact H48.out
                  · exact HZ.out m a (by omega)
                case measure => simp [intOf]; omega
              · have e48 : ((s[g].toNat : Int) == 48) = false := by rw [← hbg, beq_eq_false_iff_ne]; omega
                have HST : Hid (g + 1 = j ∨ bt s g ≠ 48) := Or.inr h48
                clear h48 hbg
                have HM := hide (sint_model (bt s) s.size i i j g HSE.out HE.out g1 g2 HZ.out HST.out HD.out)
                by_cases hlong : 10 < j - g
                · have e10 : (10 : Int) < (j : Int) - (g : Int) := by omega
                  have HX := hide (HM.out.1 hlong)
                  go_wp2
                  go_ret3
                  exact sint_close HX.out
                · have e10 : (j : Int) - (g : Int) ≤ 10 := by omega
                  go_wp2
                  go_loop [10, 11] (fun v x => ∃ k : Nat, g ≤ k ∧ k ≤ j ∧ x = .int .i64 (k : Int) ∧ v = .int .i64 (Pl.num (bt s) g (k - g) : Int)) (fun _ x => j - (intOf x).toNat)
                  case atStart => exact ⟨g, Nat.le_refl _, by omega, by go_num, by simp [Pl.num]⟩
                  case round =>
                    obtain ⟨k, k1, k2, rfl, rfl⟩ := hrel
                    have hnum := Pl.num_lt (bt s) g (k - g) (fun m a c => HD.out m (by omega) (by omega))
                    have hpow : 10 ^ (k - g) ≤ 10 ^ 10 := Nat.pow_le_pow_right (by decide) (by omega)
                    have hN : (Pl.num (bt s) g (k - g) : Int) ≤ 9999999999 := by omega
                    clear hnum hpow
                    by_cases hkj : k < j
                    · have l3 : (k : Int) < (j : Int) := by omega
                      have hks : k < s.size := by omega
                      have hdg := HD.out k (by omega) hkj
                      have hbk := bt_at s k hks
                      have HNS : Hid (Pl.num (bt s) g (k + 1 - g) = Pl.num (bt s) g (k - g) * 10 + (s[k].toNat - 48)) := by
                        show _ = _
                        rw [show k + 1 - g = (k - g) + 1 by omega, Pl.num, show g + (k - g) = k by omega, hbk]
                      simp only [Pl.isDig, Bool.and_eq_true, decide_eq_true_eq, hbk] at hdg
                      obtain ⟨x1, x2⟩ := hdg
                      have x1' : (48 : Int) ≤ (s[k].toNat : Int) := by omega
                      have x2' : (s[k].toNat : Int) ≤ 57 := by omega
                      clear hbk
                      generalize Pl.num (bt s) g (k - g) = N0 at *
                      go_wp2
                      go_round
                      case rel => exact ⟨k + 1, by omega, by omega, by go_num, by rw [HNS.out]; congr 1; omega⟩
                      case measure => simp [intOf]; omega
                    · have l3 : ¬ ((k : Int) < (j : Int)) := by omega
                      have ek : k = j := by omega
                      have HX := hide (HM.out.2 hlong)
                      subst ek
                      generalize Pl.num (bt s) g (k - g) = N0 at *
                      by_cases hbig : 2147483647 < N0
                      · have eb : (2147483647 : Int) < (N0 : Int) := by omega
                        have HY := hide (HX.out.1 hbig)
                        go_wp2
                        go_ret3
                        exact sint_close HY.out
                      · have eb : (N0 : Int) ≤ 2147483647 := by omega
                        have HY := hide (HX.out.2.2 hbig HNG.out)
                        go_wp2
                        go_ret3
                        exact sint_close HY.out
            · have l3 : ¬ ((g : Int) < (j : Int) - 1) := by omega
              have HST : Hid (g + 1 = j ∨ bt s g ≠ 48) := Or.inl (by omega)
              clear hbg
              have HM := hide (sint_model (bt s) s.size i i j g HSE.out HE.out g1 g2 HZ.out HST.out HD.out)
              by_cases hlong : 10 < j - g
              · have e10 : (10 : Int) < (j : Int) - (g : Int) := by omega
                have HX := hide (HM.out.1 hlong)
                go_wp2
                go_ret3
                exact sint_close HX.out
              · have e10 : (j : Int) - (g : Int) ≤ 10 := by omega
                go_wp2
                go_loop [10, 11] (fun v x => ∃ k : Nat, g ≤ k ∧ k ≤ j ∧ x = .int .i64 (k : Int) ∧ v = .int .i64 (Pl.num (bt s) g (k - g) : Int)) (fun _ x => j - (intOf x).toNat)
                case atStart => exact ⟨g, Nat.le_refl _, by omega, by go_num, by simp [Pl.num]⟩
                case round =>
                  obtain ⟨k, k1, k2, rfl, rfl⟩ := hrel
                  have hnum := Pl.num_lt (bt s) g (k - g) (fun m a c => HD.out m (by omega) (by omega))
                  have hpow : 10 ^ (k - g) ≤ 10 ^ 10 := Nat.pow_le_pow_right (by decide) (by omega)
                  have hN : (Pl.num (bt s) g (k - g) : Int) ≤ 9999999999 := by omega
                  clear hnum hpow
                  by_cases hkj : k < j
                  · have l3 : (k : Int) < (j : Int) := by omega
                    have hks : k < s.size := by omega
                    have hdg := HD.out k (by omega) hkj
                    have hbk := bt_at s k hks
                    have HNS : Hid (Pl.num (bt s) g (k + 1 - g) = Pl.num (bt s) g (k - g) * 10 + (s[k].toNat - 48)) := by
                      show _ = _
                      rw [show k + 1 - g = (k - g) + 1 by omega, Pl.num, show g + (k - g) = k by omega, hbk]
                    simp only [Pl.isDig, Bool.and_eq_true, decide_eq_true_eq, hbk] at hdg
                    obtain ⟨x1, x2⟩ := hdg
                    have x1' : (48 : Int) ≤ (s[k].toNat : Int) := by omega
                    have x2' : (s[k].toNat : Int) ≤ 57 := by omega
                    clear hbk
                    generalize Pl.num (bt s) g (k - g) = N0 at *
                    go_wp2
                    go_round
                    case rel => exact ⟨k + 1, by omega, by omega, by go_num, by rw [HNS.out]; congr 1; omega⟩
                    case measure => simp [intOf]; omega
                  · have l3 : ¬ ((k : Int) < (j : Int)) := by omega
                    have ek : k = j := by omega
                    have HX := hide (HM.out.2 hlong)
                    subst ek
                    generalize Pl.num (bt s) g (k - g) = N0 at *
                    by_cases hbig : 2147483647 < N0
                    · have eb : (2147483647 : Int) < (N0 : Int) := by omega
                      have HY := hide (HX.out.1 hbig)
                      go_wp2
                      go_ret3
                      exact sint_close HY.out
                    · have eb : (N0 : Int) ≤ 2147483647 := by omega
                      have HY := hide (HX.out.2.2 hbig HNG.out)
                      go_wp2
                      go_ret3
                      exact sint_close HY.out
    · have l2 : ¬ ((j : Int) < (s.size : Int)) := by omega
      have HE := hide (Pl.stop_eq Pl.isDig (bt s) s.size i j j1 j2 HD.out (Or.inl (by omega)))
      by_cases hj0 : j = i
      · have HX := hide (sint_none (bt s) s.size i i HSE.out (by rw [HE.out, hj0]))
        clear HE HD
        subst hj0
        go_wp2
        go_ret3
        exact sint_close HX.out
      · have ej : ((j : Int) == (i : Int)) = false := beq_eq_false_iff_ne.2 (by omega)
        go_wp2
        go_loop [9] (fun x => ∃ g : Nat, i ≤ g ∧ g + 1 ≤ j ∧ x = .int .i64 (g : Int) ∧ ∀ m, i ≤ m → m < g → bt s m = 48) (fun x => j - (intOf x).toNat)
        case atStart => exact ⟨i, Nat.le_refl _, by omega, by go_num, fun m a b => by omega⟩
        case round =>
          obtain ⟨g, g1, g2, rfl, hz⟩ := hrel
          have HZ := hide hz
          clear hz
          have hgs : g < s.size := by omega
          have hbg := bt_at s g hgs
          by_cases hgl : g + 1 < j
          · have l3 : (g : Int) < (j : Int) - 1 := by omega
            by_cases h48 : bt s g = 48
            · have e48 : ((s[g].toNat : Int) == 48) = true := by rw [← hbg]; simp [h48]
              have H48 := hide h48
              clear h48 hbg
              go_wp2
              go_round
              case rel =>
                refine ⟨g + 1, by omega, by omega, by go_num, fun m a b => ?_⟩
                by_cases e : m = g
                · rw [e]; exact H48.out
                · exact HZ.out m a (by omega)
              case measure => simp [intOf]; omega
            · have e48 : ((s[g].toNat : Int) == 48) = false := by rw [← hbg, beq_eq_false_iff_ne]; omega
              have HST : Hid (g + 1 = j ∨ bt s g ≠ 48) := Or.inr h48
              clear h48 hbg
              have HM := hide (sint_model (bt s) s.size i i j g HSE.out HE.out g1 g2 HZ.out HST.out HD.out)
              by_cases hlong : 10 < j - g
              · have e10 : (10 : Int) < (j : Int) - (g : Int) := by omega
                have HX := hide (HM.out.1 hlong)
                go_wp2
                go_ret3
                exact sint_close HX.out
              · have e10 : (j : Int) - (g : Int) ≤ 10 := by omega
                go_wp2
                go_loop [10, 11] (fun v x => ∃ k : Nat, g ≤ k ∧ k ≤ j ∧ x = .int .i64 (k : Int) ∧ v = .int .i64 (Pl.num (bt s) g (k - g) : Int)) (fun _ x => j - (intOf x).toNat)
                case atStart => exact ⟨g, Nat.le_refl _, by omega, by go_num, by simp [Pl.num]⟩
                case round =>
                  obtain ⟨k, k1, k2, rfl, rfl⟩ := hrel
                  have hnum := Pl.num_lt (bt s) g (k - g) (fun m a c => HD.out m (by omega) (by omega))
                  have hpow : 10 ^ (k - g) ≤ 10 ^ 10 := Nat.pow_le_pow_right (by decide) (by omega)
                  have hN : (Pl.num (bt s) g (k - g) : Int) ≤ 9999999999 := by omega
                  clear hnum hpow
                  by_cases hkj : k < j
                  · have l3 : (k : Int) < (j : Int) := by omega
                    have hks : k < s.size := by omega
                    have hdg := HD.out k (by omega) hkj
                    have hbk := bt_at s k hks
                    have HNS : Hid (Pl.num (bt s) g (k + 1 - g) = Pl.num (bt s) g (k - g) * 10 + (s[k].toNat - 48)) := by
                      show _ = _
                      rw [show k + 1 - g = (k - g) + 1 by omega, Pl.num, show g + (k - g) = k by omega, hbk]
                    simp only [Pl.isDig, Bool.and_eq_true, decide_eq_true_eq, hbk] at hdg
                    obtain ⟨x1, x2⟩ := hdg
                    have x1' : (48 : Int) ≤ (s[k].toNat : Int) := by omega
                    have x2' : (s[k].toNat : Int) ≤ 57 := by omega
                    clear hbk
                    generalize Pl.num (bt s) g (k - g) = N0 at *
                    go_wp2
                    go_round
                    case rel => exact ⟨k + 1, by omega, by omega, by go_num, by rw [HNS.out]; congr 1; omega⟩
                    case measure => simp [intOf]; omega
                  · have l3 : ¬ ((k : Int) < (j : Int)) := by omega
                    have ek : k = j := by omega
                    have HX := hide (HM.out.2 hlong)
                    subst ek
                    generalize Pl.num (bt s) g (k - g) = N0 at *
                    by_cases hbig : 2147483647 < N0
                    · have eb : (2147483647 : Int) < (N0 : Int) := by omega
                      have HY := hide (HX.out.1 hbig)
                      go_wp2
                      go_ret3
                      exact sint_close HY.out
                    · have eb : (N0 : Int) ≤ 2147483647 := by omega
                      have HY := hide (HX.out.2.2 hbig HNG.out)
                      go_wp2
                      go_ret3
                      exact sint_close HY.out
          · have l3 : ¬ ((g : Int) < (j : Int) - 1) := by omega
            have HST : Hid (g + 1 = j ∨ bt s g ≠ 48) := Or.inl (by omega)
            clear hbg
            have HM := hide (sint_model (bt s) s.size i i j g HSE.out HE.out g1 g2 HZ.out HST.out HD.out)
            by_cases hlong : 10 < j - g
            · have e10 : (10 : Int) < (j : Int) - (g : Int) := by omega
              have HX := hide (HM.out.1 hlong)
              go_wp2
              go_ret3
              exact sint_close HX.out
            · have e10 : (j : Int) - (g : Int) ≤ 10 := by omega
              go_wp2
              go_loop [10, 11] (fun v x => ∃ k : Nat, g ≤ k ∧ k ≤ j ∧ x = .int .i64 (k : Int) ∧ v = .int .i64 (Pl.num (bt s) g (k - g) : Int)) (fun _ x => j - (intOf x).toNat)
              case atStart => exact ⟨g, Nat.le_refl _, by omega, by go_num, by simp [Pl.num]⟩
              case round =>
                obtain ⟨k, k1, k2, rfl, rfl⟩ := hrel
                have hnum := Pl.num_lt (bt s) g (k - g) (fun m a c => HD.out m (by omega) (by omega))
                have hpow : 10 ^ (k - g) ≤ 10 ^ 10 := Nat.pow_le_pow_right (by decide) (by omega)
                have hN : (Pl.num (bt s) g (k - g) : Int) ≤ 9999999999 := by omega
                clear hnum hpow
                by_cases hkj : k < j
                · have l3 : (k : Int) < (j : Int) := by omega
                  have hks : k < s.size := by omega
                  have hdg := HD.out k (by omega) hkj
                  have hbk := bt_at s k hks
                  have HNS : Hid (Pl.num (bt s) g (k + 1 - g) = Pl.num (bt s) g (k - g) * 10 + (s[k].toNat - 48)) := by
                    show _ = _
                    rw [show k + 1 - g = (k - g) + 1 by omega, Pl.num, show g + (k - g) = k by omega, hbk]
                  simp only [Pl.isDig, Bool.and_eq_true, decide_eq_true_eq, hbk] at hdg
                  obtain ⟨x1, x2⟩ := hdg
                  have x1' : (48 : Int) ≤ (s[k].toNat : Int) := by omega
                  have x2' : (s[k].toNat : Int) ≤ 57 := by omega
                  clear hbk
                  generalize Pl.num (bt s) g (k - g) = N0 at *
                  go_wp2
                  go_round
                  case rel => exact ⟨k + 1, by omega, by omega, by go_num, by rw [HNS.out]; congr 1; omega⟩
                  case measure => simp [intOf]; omega
                · have l3 : ¬ ((k : Int) < (j : Int)) := by omega
                  have ek : k = j := by omega
                  have HX := hide (HM.out.2 hlong)
                  subst ek
                  generalize Pl.num (bt s) g (k - g) = N0 at *
                  by_cases hbig : 2147483647 < N0
                  · have eb : (2147483647 : Int) < (N0 : Int) := by omega
                    have HY := hide (HX.out.1 hbig)
                    go_wp2
                    go_ret3
                    exact sint_close HY.out
                  · have eb : (N0 : Int) ≤ 2147483647 := by omega
                    have HY := hide (HX.out.2.2 hbig HNG.out)
                    go_wp2
                    go_ret3
                    exact sint_close HY.out

set_option maxRecDepth 100000 in
set_option maxHeartbeats 1000000 in
theorem sint32_end (s : ByteArray) (i : Nat) (w : World) (_hs : s.size ≤ 1048576) (hi : i = s.size) :
    Calls Try.prog 32 #[.string s, .int .i64 (i : Int)] w fun e w' => e = .returned (.tuple #[.int .i64 (Pl.sint (bt s) s.size i).1, .int .i64 ((Pl.sint (bt s) s.size i).2.1 : Int), .bool (Pl.sint (bt s) s.size i).2.2]) ∧ w = w' := by
  have HSE : Hid (Pl.signEnd (bt s) s.size i = i) := by show _ = _; unfold Pl.signEnd; rw [if_neg (by omega)]
  have HX := hide (sint_none (bt s) s.size i i HSE.out (Pl.stop_eq _ _ _ _ _ (Nat.le_refl _) (by omega) (fun m a b => by omega) (Or.inl hi)))
  have l1 : ¬ ((i : Int) < (s.size : Int)) := by omega
  have ei : ((i : Int) == (i : Int)) = true := beq_iff_eq.2 rfl
  clear hi
  go_enter Try.func32, Try.ntmps32
  go_wp2
  refine wp_loop_rounds 1 ?_
  rw [rounds_succ]
  go_wp2
  go_ret3
  exact sint_close HX.out

theorem sint32 (s : ByteArray) (i : Nat) (w : World) (hi : i ≤ s.size) (hs : s.size ≤ 1048576) :
    Calls Try.prog 32 #[.string s, .int .i64 (i : Int)] w fun e w' => e = .returned (.tuple #[.int .i64 (Pl.sint (bt s) s.size i).1, .int .i64 ((Pl.sint (bt s) s.size i).2.1 : Int), .bool (Pl.sint (bt s) s.size i).2.2]) ∧ w = w' := by
  by_cases hlt : i < s.size
  · by_cases h : bt s i = 45
    · exact sint32_neg s i w hi hs ⟨hlt, h⟩
    · exact sint32_pos s i w hi hs hlt h
  · exact sint32_end s i w hs (by omega)
end Go.Proofs.Qxb6600554a

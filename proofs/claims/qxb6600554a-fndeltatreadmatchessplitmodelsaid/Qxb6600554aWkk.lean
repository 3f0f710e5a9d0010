import Derived.Test.Qxb6600554aWkj
namespace Go.Proofs.Qxb6600554a
open Go.RowKit

def cD (v f0 f1 f2 : Int) : Int := wrap64 (wrap64 (wrap64 (wrap64 (v * 86400) + wrap64 (f0 * 3600)) + wrap64 (f1 * 60)) + f2)
def cC (v f0 f1 : Int) : Int := wrap64 (wrap64 (wrap64 (v * 3600) + wrap64 (f0 * 60)) + f1)

set_option maxRecDepth 100000 in
set_option maxHeartbeats 4000000 in
theorem clock34 (s : ByteArray) (i0 : Nat) (v : Int) (dash : Bool) (w : World) (hi0 : i0 ≤ s.size) (hs : s.size ≤ 1048576) :
    Calls Try.prog 34 #[.string s, .int .i64 (i0 : Int), .int .i64 v, .bool dash] w (MSaid w (Pl.mC (cD v) (cC v) (bt s) s.size dash (s.size - i0 + 2) i0 i0 0 0 0 0)) := by
  generalize hR : Pl.mC (cD v) (cC v) (bt s) s.size dash (s.size - i0 + 2) i0 i0 0 0 0 0 = R
  have HR0 := hide hR
  clear hR
  go_enter Try.func34, Try.ntmps34
  go_wp2
  go_loop [10, 11, 12, 13, 14, 15] (fun a b c n st x => ∃ (i start count f : Nat) (f0 f1 f2 : Int), i ≤ s.size + 1 ∧ start ≤ i ∧ count ≤ 3 ∧ a = .int .i64 f0 ∧ b = .int .i64 f1 ∧ c = .int .i64 f2 ∧ n = .int .i64 (count : Int) ∧ st = .int .i64 (start : Int) ∧ x = .int .i64 (i : Int) ∧ (s.size + 1 - i < f + 1 ∧ Pl.mC (cD v) (cC v) (bt s) s.size dash (f + 1) i start count f0 f1 f2 = R)) (fun _ _ _ _ _ x => s.size + 1 - (intOf x).toNat)
  case atStart => exact ⟨i0, i0, 0, s.size - i0 + 1, 0, 0, 0, by omega, Nat.le_refl _, by omega, rfl, rfl, rfl, rfl, rfl, rfl, by omega, HR0.out⟩
  case round =>
    obtain ⟨i, start, count, f, f0, f1, f2, i1, i2, i3, rfl, rfl, rfl, rfl, rfl, rfl, hf, hR⟩ := hrel
    by_cases hil : i ≤ s.size
    · have l0 : (i : Int) ≤ (s.size : Int) := by omega
      rw [Pl.mC, if_pos hil] at hR
      obtain ⟨f, rfl⟩ : ∃ k, f = k + 1 := ⟨f - 1, by omega⟩
      by_cases hgo : i < s.size ∧ bt s i ≠ 58
      · rw [if_pos hgo] at hR
        have HR := hide hR
        obtain ⟨hlt, hne⟩ := hgo
        have l1 : (i : Int) < (s.size : Int) := by omega
        have e58 : ((s[i].toNat : Int) != 58) = true := by rw [← bt_at s i hlt, bne_iff_ne]; omega
        clear hR hne
        go_wp2
        go_round
        case rel => exact ⟨i + 1, start, count, f, f0, f1, f2, by omega, by omega, i3, rfl, rfl, rfl, rfl, rfl, by go_num, by omega, HR.out⟩
        case measure => simp [intOf]; omega
      · rw [if_neg hgo] at hR
        have hgo2 : ∀ (P : Prop), (i < s.size → (∀ h : i < s.size, ((s[i].toNat : Int) != 58) = false) → P) → (¬ i < s.size → P) → P := by
          intro P h1 h2
          by_cases hlt : i < s.size
          · refine h1 hlt (fun h => ?_)
            rw [bne_eq_false_iff_eq, ← bt_at s i h]
            have : bt s i = 58 := Decidable.byContradiction fun k => hgo ⟨hlt, k⟩
            omega
          · exact h2 hlt
        have lsl1 : (start : Int) ≤ (i : Int) := by omega
        have hps := piece_size s start i i2 hil
        have hpb := piece_bt s start i i2 hil
        by_cases hlen : i - start < 1 ∨ 2 < i - start
        · rw [if_pos hlen] at hR
          have HR := hide hR
          clear hR hgo hpb
          apply hgo2
          · intro hlt he
            have e58 := he hlt
            have l1 : (i : Int) < (s.size : Int) := by omega
            clear he hgo2
            by_cases hl1 : i - start < 1
            · have p1 : ((s.extract start i).size : Int) < 1 := by omega
              go_wp2
              go_ret2
              exact m_close HR.out
            · have p1 : ¬ (((s.extract start i).size : Int) < 1) := by omega
              have p2 : 2 < ((s.extract start i).size : Int) := by omega
              go_wp2
              go_ret2
              exact m_close HR.out
          · intro hlt
            have l1 : ¬ ((i : Int) < (s.size : Int)) := by omega
            clear hgo2
            by_cases hl1 : i - start < 1
            · have p1 : ((s.extract start i).size : Int) < 1 := by omega
              go_wp2
              go_ret2
              exact m_close HR.out
            · have p1 : ¬ (((s.extract start i).size : Int) < 1) := by omega
              have p2 : 2 < ((s.extract start i).size : Int) := by omega
              go_wp2
              go_ret2
              exact m_close HR.out
        · rw [if_neg hlen] at hR
          have p1 : ¬ (((s.extract start i).size : Int) < 1) := by omega
          have p2 : ¬ (2 < ((s.extract start i).size : Int)) := by omega
          have HR := hide hR
          have HPB := hide hpb
          clear hR hgo hpb
          apply hgo2
          · intro hlt he
            have e58 := he hlt
            have l1 : (i : Int) < (s.size : Int) := by omega
            clear he hgo2
            go_wp2
            go_loop [17, 18] (fun n x => ∃ k : Nat, k ≤ i - start ∧ x = .int .i64 (k : Int) ∧ n = .int .i64 (Pl.num (bt s) start k : Int) ∧ Pl.allDig (bt s) start k = true) (fun _ x => i - start - (intOf x).toNat)
            case atStart => exact ⟨0, Nat.zero_le _, rfl, rfl, rfl⟩
            case round =>
              obtain ⟨k, k1, rfl, rfl, hd⟩ := hrel
              by_cases hk : k < i - start
              · have lk : (k : Int) < ((s.extract start i).size : Int) := by omega
                have hkn : k < (s.extract start i).size := by omega
                have hbk := bt_at (s.extract start i) k hkn
                rw [HPB.out k hk] at hbk
                have hc := fun W => isDig45 (s.extract start i)[k].toNat W
                rw [← hbk] at hc
                cases hdg : Pl.isDig (bt s (start + k))
                · have hall : Pl.allDig (bt s) start (i - start) = false := by
                    cases h : Pl.allDig (bt s) start (i - start)
                    · rfl
                    · have := (Pl.allDig_iff _ _ _).1 h (start + k) (by omega) (by omega)
                      rw [hdg] at this; cases this
                  have hR := HR.out
                  rw [if_pos hall] at hR
                  rw [hdg] at hc
                  have HR2 := hide hR
                  have HC := hide hc
                  have HB := hide hbk
                  clear hR hc hbk hdg hall hd
                  go_wp2_with (go_at_call 45; rw [← HB.out]; refine (HC.out _).mono ?_; rintro e w1 ⟨rfl, hw⟩; subst hw)
                  go_ret2
                  exact m_close HR2.out
                · have hN := Pl.num_lt (bt s) start k (fun j a b => (Pl.allDig_iff _ _ _).1 hd j a b)
                  have hpow : 10 ^ k ≤ 10 ^ 2 := Nat.pow_le_pow_right (by decide) (by omega)
                  have hN2 : (Pl.num (bt s) start k : Int) ≤ 99 := by omega
                  have HD2 : Hid (Pl.allDig (bt s) start (k + 1) = true) := by
                    show _ = _
                    rw [Pl.allDig, hd, hdg]; rfl
                  have HNS : Hid (Pl.num (bt s) start (k + 1) = Pl.num (bt s) start k * 10 + ((s.extract start i)[k].toNat - 48)) := by
                    show _ = _
                    rw [Pl.num, hbk]
                  rw [hdg] at hc
                  have HC := hide hc
                  have HB := hide hbk
                  simp only [Pl.isDig, Bool.and_eq_true, decide_eq_true_eq, hbk] at hdg
                  obtain ⟨x1, x2⟩ := hdg
                  have x1' : (48 : Int) ≤ ((s.extract start i)[k].toNat : Int) := by omega
                  have x2' : ((s.extract start i)[k].toNat : Int) ≤ 57 := by omega
                  clear hc hbk hN hpow hd
                  generalize Pl.num (bt s) start k = N0 at *
                  go_wp2_with (go_at_call 45; rw [← HB.out]; refine (HC.out _).mono ?_; rintro e w1 ⟨rfl, hw⟩; subst hw)
                  go_round
                  case rel => exact ⟨k + 1, by omega, by go_num, by rw [HNS.out]; congr 1; omega, HD2.out⟩
                  case measure => simp [intOf]; omega
              · have lk : ¬ ((k : Int) < ((s.extract start i).size : Int)) := by omega
                have ek : k = i - start := by omega
                have hR := HR.out
                rw [← ek] at hR
                rw [if_neg (by rw [hd]; decide)] at hR
                clear HR
                generalize Pl.num (bt s) start k = N0 at *
                have hc4 : count = 0 ∨ count = 1 ∨ count = 2 ∨ count = 3 := by omega
                clear hd ek
                rcases hc4 with rfl | rfl | rfl | rfl
                · have HR2 : Hid (Pl.mC (cD v) (cC v) (bt s) s.size dash (f + 1) (i + 1) (i + 1) 1 N0 f1 f2 = R) := hR
                  clear hR
                  go_wp2
                  go_round
                  case rel => exact ⟨i + 1, i + 1, 1, f, N0, f1, f2, by omega, by omega, by omega, rfl, rfl, rfl, rfl, by go_num, by go_num, by omega, HR2.out⟩
                  case measure => simp [intOf]; omega
                · have HR2 : Hid (Pl.mC (cD v) (cC v) (bt s) s.size dash (f + 1) (i + 1) (i + 1) 2 f0 N0 f2 = R) := hR
                  clear hR
                  go_wp2
                  go_round
                  case rel => exact ⟨i + 1, i + 1, 2, f, f0, N0, f2, by omega, by omega, by omega, rfl, rfl, rfl, rfl, by go_num, by go_num, by omega, HR2.out⟩
                  case measure => simp [intOf]; omega
                · have HR2 : Hid (Pl.mC (cD v) (cC v) (bt s) s.size dash (f + 1) (i + 1) (i + 1) 3 f0 f1 N0 = R) := hR
                  clear hR
                  go_wp2
                  go_round
                  case rel => exact ⟨i + 1, i + 1, 3, f, f0, f1, N0, by omega, by omega, by omega, rfl, rfl, rfl, rfl, by go_num, by go_num, by omega, HR2.out⟩
                  case measure => simp [intOf]; omega
                · have HR2 : Hid (((0 : Int), false) = R) := hR
                  clear hR
                  go_wp2
                  go_ret2
                  exact m_close HR2.out
          · intro hlt
            have l1 : ¬ ((i : Int) < (s.size : Int)) := by omega
            clear hgo2
            go_wp2
            go_loop [17, 18] (fun n x => ∃ k : Nat, k ≤ i - start ∧ x = .int .i64 (k : Int) ∧ n = .int .i64 (Pl.num (bt s) start k : Int) ∧ Pl.allDig (bt s) start k = true) (fun _ x => i - start - (intOf x).toNat)
            case atStart => exact ⟨0, Nat.zero_le _, rfl, rfl, rfl⟩
            case round =>
              obtain ⟨k, k1, rfl, rfl, hd⟩ := hrel
              by_cases hk : k < i - start
              · have lk : (k : Int) < ((s.extract start i).size : Int) := by omega
                have hkn : k < (s.extract start i).size := by omega
                have hbk := bt_at (s.extract start i) k hkn
                rw [HPB.out k hk] at hbk
                have hc := fun W => isDig45 (s.extract start i)[k].toNat W
                rw [← hbk] at hc
                cases hdg : Pl.isDig (bt s (start + k))
                · have hall : Pl.allDig (bt s) start (i - start) = false := by
                    cases h : Pl.allDig (bt s) start (i - start)
                    · rfl
                    · have := (Pl.allDig_iff _ _ _).1 h (start + k) (by omega) (by omega)
                      rw [hdg] at this; cases this
                  have hR := HR.out
                  rw [if_pos hall] at hR
                  rw [hdg] at hc
                  have HR2 := hide hR
                  have HC := hide hc
                  have HB := hide hbk
                  clear hR hc hbk hdg hall hd
                  go_wp2_with (go_at_call 45; rw [← HB.out]; refine (HC.out _).mono ?_; rintro e w1 ⟨rfl, hw⟩; subst hw)
                  go_ret2
                  exact m_close HR2.out
                · have hN := Pl.num_lt (bt s) start k (fun j a b => (Pl.allDig_iff _ _ _).1 hd j a b)
                  have hpow : 10 ^ k ≤ 10 ^ 2 := Nat.pow_le_pow_right (by decide) (by omega)
                  have hN2 : (Pl.num (bt s) start k : Int) ≤ 99 := by omega
                  have HD2 : Hid (Pl.allDig (bt s) start (k + 1) = true) := by
                    show _ = _
                    rw [Pl.allDig, hd, hdg]; rfl
                  have HNS : Hid (Pl.num (bt s) start (k + 1) = Pl.num (bt s) start k * 10 + ((s.extract start i)[k].toNat - 48)) := by
                    show _ = _
                    rw [Pl.num, hbk]
                  rw [hdg] at hc
                  have HC := hide hc
                  have HB := hide hbk
                  simp only [Pl.isDig, Bool.and_eq_true, decide_eq_true_eq, hbk] at hdg
                  obtain ⟨x1, x2⟩ := hdg
                  have x1' : (48 : Int) ≤ ((s.extract start i)[k].toNat : Int) := by omega
                  have x2' : ((s.extract start i)[k].toNat : Int) ≤ 57 := by omega
                  clear hc hbk hN hpow hd
                  generalize Pl.num (bt s) start k = N0 at *
                  go_wp2_with (go_at_call 45; rw [← HB.out]; refine (HC.out _).mono ?_; rintro e w1 ⟨rfl, hw⟩; subst hw)
                  go_round
                  case rel => exact ⟨k + 1, by omega, by go_num, by rw [HNS.out]; congr 1; omega, HD2.out⟩
                  case measure => simp [intOf]; omega
              · have lk : ¬ ((k : Int) < ((s.extract start i).size : Int)) := by omega
                have ek : k = i - start := by omega
                have hR := HR.out
                rw [← ek] at hR
                rw [if_neg (by rw [hd]; decide)] at hR
                clear HR
                generalize Pl.num (bt s) start k = N0 at *
                have hc4 : count = 0 ∨ count = 1 ∨ count = 2 ∨ count = 3 := by omega
                clear hd ek
                rcases hc4 with rfl | rfl | rfl | rfl
                · have HR2 : Hid (Pl.mC (cD v) (cC v) (bt s) s.size dash (f + 1) (i + 1) (i + 1) 1 N0 f1 f2 = R) := hR
                  clear hR
                  go_wp2
                  go_round
                  case rel => exact ⟨i + 1, i + 1, 1, f, N0, f1, f2, by omega, by omega, by omega, rfl, rfl, rfl, rfl, by go_num, by go_num, by omega, HR2.out⟩
                  case measure => simp [intOf]; omega
                · have HR2 : Hid (Pl.mC (cD v) (cC v) (bt s) s.size dash (f + 1) (i + 1) (i + 1) 2 f0 N0 f2 = R) := hR
                  clear hR
                  go_wp2
                  go_round
                  case rel => exact ⟨i + 1, i + 1, 2, f, f0, N0, f2, by omega, by omega, by omega, rfl, rfl, rfl, rfl, by go_num, by go_num, by omega, HR2.out⟩
                  case measure => simp [intOf]; omega
                · have HR2 : Hid (Pl.mC (cD v) (cC v) (bt s) s.size dash (f + 1) (i + 1) (i + 1) 3 f0 f1 N0 = R) := hR
                  clear hR
                  go_wp2
                  go_round
                  case rel => exact ⟨i + 1, i + 1, 3, f, f0, f1, N0, by omega, by omega, by omega, rfl, rfl, rfl, rfl, by go_num, by go_num, by omega, HR2.out⟩
                  case measure => simp [intOf]; omega
                · have HR2 : Hid (((0 : Int), false) = R) := hR
                  clear hR
                  go_wp2
                  go_ret2
                  exact m_close HR2.out
    · have l0 : ¬ ((i : Int) ≤ (s.size : Int)) := by omega
      rw [Pl.mC, if_neg hil] at hR
      cases dash
      · rw [if_neg (by decide)] at hR
        by_cases hc : 2 < count
        · rw [if_pos hc] at hR
          have HR := hide hR
          have lc : (2 : Int) < (count : Int) := by omega
          clear hR
          go_wp2
          go_ret2
          exact m_close HR.out
        · rw [if_neg hc] at hR
          have HR := hide hR
          have lc : (count : Int) ≤ 2 := by omega
          clear hR
          go_wp2
          go_ret2
          exact m_close HR.out
      · rw [if_pos rfl] at hR
        by_cases hc : count = 3
        · rw [if_pos hc] at hR
          have HR := hide hR
          clear hR
          subst hc
          go_wp2
          go_ret2
          exact m_close HR.out
        · rw [if_neg hc] at hR
          have HR := hide hR
          have lc : ((count : Int) != 3) = true := by rw [bne_iff_ne]; omega
          clear hR hc
          go_wp2
          go_ret2
          exact m_close HR.out
end Go.Proofs.Qxb6600554a

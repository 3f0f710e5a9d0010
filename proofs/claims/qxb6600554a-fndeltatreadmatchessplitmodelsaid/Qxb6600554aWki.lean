import Derived.Test.Qxb6600554aWkh
namespace Go.Proofs.Qxb6600554a
open Go.RowKit

set_option maxRecDepth 100000 in
set_option maxHeartbeats 400000 in
theorem isSt46 (c : Nat) (w : World) : Calls Try.prog 46 #[.int .u8 (c : Int)] w fun e w' => e = .returned (.bool (Pl.isSt c)) ∧ w = w' := by
  by_cases h1 : c = 32
  · subst h1
    go_enter Try.func46, Try.ntmps46
    go_wp2
    go_ret
    exact ⟨rfl, rfl⟩
  by_cases h2 : c = 9
  · subst h2
    go_enter Try.func46, Try.ntmps46
    go_wp2
    go_ret
    exact ⟨rfl, rfl⟩
  by_cases h3 : c = 10
  · subst h3
    go_enter Try.func46, Try.ntmps46
    go_wp2
    go_ret
    exact ⟨rfl, rfl⟩
  have hF : Hid (Pl.isSt c = false) := by
    show _ = _
    simp only [Pl.isSt, Bool.or_eq_false_iff, beq_eq_false_iff_ne]
    exact ⟨⟨h1, h2⟩, h3⟩
  have e1 : ((c : Int) == 32) = false := beq_eq_false_iff_ne.2 (by omega)
  have e2 : ((c : Int) == 9) = false := beq_eq_false_iff_ne.2 (by omega)
  have e3 : ((c : Int) == 10) = false := beq_eq_false_iff_ne.2 (by omega)
  clear h1 h2 h3
  go_enter Try.func46, Try.ntmps46
  go_wp2
  go_ret
  exact ⟨by rw [hF.out]; rfl, rfl⟩

set_option maxRecDepth 100000 in
set_option maxHeartbeats 400000 in
theorem isSp47 (c : Nat) (w : World) : Calls Try.prog 47 #[.int .u8 (c : Int)] w fun e w' => e = .returned (.bool (Pl.isSp c)) ∧ w = w' := by
  by_cases h : c = 32 ∨ c = 9 ∨ c = 10 ∨ c = 11 ∨ c = 12 ∨ c = 13
  · rcases h with rfl | rfl | rfl | rfl | rfl | rfl
    all_goals
      go_enter Try.func47, Try.ntmps47
      go_wp2
      go_ret
      exact ⟨rfl, rfl⟩
  have hF : Hid (Pl.isSp c = false) := by
    show _ = _
    simp only [Pl.isSp, Bool.or_eq_false_iff, beq_eq_false_iff_ne]
    omega
  have e1 : ((c : Int) == 32) = false := beq_eq_false_iff_ne.2 (by omega)
  have e2 : ((c : Int) == 9) = false := beq_eq_false_iff_ne.2 (by omega)
  have e3 : ((c : Int) == 10) = false := beq_eq_false_iff_ne.2 (by omega)
  have e4 : ((c : Int) == 11) = false := beq_eq_false_iff_ne.2 (by omega)
  have e5 : ((c : Int) == 12) = false := beq_eq_false_iff_ne.2 (by omega)
  have e6 : ((c : Int) == 13) = false := beq_eq_false_iff_ne.2 (by omega)
  clear h
  go_enter Try.func47, Try.ntmps47
  go_wp2
  go_ret
  exact ⟨by rw [hF.out]; rfl, rfl⟩

set_option maxRecDepth 100000 in
set_option maxHeartbeats 1000000 in
theorem skip33 (s : ByteArray) (i : Nat) (w : World) (hi : i ≤ s.size) (hs : s.size ≤ 1048576) :
    Calls Try.prog 33 #[.string s, .int .i64 (i : Int)] w fun e w' => e = .returned (.int .i64 (Pl.skip (bt s) s.size i : Int)) ∧ w = w' := by
  by_cases hc : i < s.size ∧ Pl.isSt (bt s i) = true
  · obtain ⟨hlt, hst⟩ := hc
    have HSK : Hid (Pl.skip (bt s) s.size i = Pl.stop Pl.isSp (bt s) s.size i) := by show _ = _; unfold Pl.skip; rw [if_pos ⟨hlt, hst⟩]
    have l1 : (i : Int) < (s.size : Int) := by omega
    have hb := bt_at s i hlt
    have hcall := fun W => isSt46 s[i].toNat W
    rw [← hb, hst] at hcall
    have HC := hide hcall
    have HSP := hide (Pl.isSt_sp _ hst)
    have HBt := hide hb
    clear hcall hst hb
    go_enter Try.func33, Try.ntmps33
    go_wp2_with (go_at_call 46; rw [← HBt.out]; refine (HC.out _).mono ?_; rintro e w1 ⟨rfl, hw⟩; subst hw)
    go_loop [1] (fun x => ∃ j : Nat, i ≤ j ∧ j ≤ s.size ∧ x = .int .i64 (j : Int) ∧ ∀ m, i ≤ m → m < j → Pl.isSp (bt s m) = true) (fun x => s.size - (intOf x).toNat)
    case atStart =>
      refine ⟨i + 1, by omega, by omega, by go_num, fun m a b => ?_⟩
      rw [show m = i by omega]
      exact HSP.out
    case round =>
      obtain ⟨j, j1, j2, rfl, hd⟩ := hrel
      have HD := hide hd
      clear hd
      by_cases hjl : j < s.size
      · have l2 : (j : Int) < (s.size : Int) := by omega
        have hbj := bt_at s j hjl
        have hcj := fun W => isSp47 s[j].toNat W
        by_cases hsp : Pl.isSp (bt s j) = true
        · rw [← hbj, hsp] at hcj
          have HG := hide hsp
          have HCj := hide hcj
          have HBj := hide hbj
          clear hcj hsp hbj
          go_wp2_with (go_at_call 47; rw [← HBj.out]; refine (HCj.out _).mono ?_; rintro e w1 ⟨rfl, hw⟩; subst hw)
          go_round
          case rel =>
            refine ⟨j + 1, by omega, by omega, by go_num, fun m a b => ?_⟩
            by_cases e : m = j
            · rw [e]; exact HG.out
            · exact HD.out m a (by omega)
          case measure => simp [intOf]; omega
        · have hf : Pl.isSp (bt s j) = false := by
            cases h : Pl.isSp (bt s j)
            · rfl
            · exact absurd h hsp
          rw [← hbj, hf] at hcj
          have HE := hide (Pl.stop_eq Pl.isSp (bt s) s.size i j j1 j2 HD.out (Or.inr hf))
          have HCj := hide hcj
          have HBj := hide hbj
          clear hcj hsp hbj hf
          go_wp2_with (go_at_call 47; rw [← HBj.out]; refine (HCj.out _).mono ?_; rintro e w1 ⟨rfl, hw⟩; subst hw)
          go_ret
          exact ⟨by rw [HSK.out, HE.out]; rfl, rfl⟩
      · have l2 : ¬ ((j : Int) < (s.size : Int)) := by omega
        have HE := hide (Pl.stop_eq Pl.isSp (bt s) s.size i j j1 j2 HD.out (Or.inl (by omega)))
        go_wp2
        go_ret
        exact ⟨by rw [HSK.out, HE.out]; rfl, rfl⟩
  · have HSK : Hid (Pl.skip (bt s) s.size i = i) := by show _ = _; unfold Pl.skip; rw [if_neg hc]
    by_cases hlt : i < s.size
    · have l1 : (i : Int) < (s.size : Int) := by omega
      have hf : Pl.isSt (bt s i) = false := by
        cases h : Pl.isSt (bt s i)
        · rfl
        · exact absurd ⟨hlt, h⟩ hc
      have hb := bt_at s i hlt
      have hcall := fun W => isSt46 s[i].toNat W
      rw [← hb, hf] at hcall
      have HC := hide hcall
      have HBt := hide hb
      clear hcall hf hb hc
      go_enter Try.func33, Try.ntmps33
      go_wp2_with (go_at_call 46; rw [← HBt.out]; refine (HC.out _).mono ?_; rintro e w1 ⟨rfl, hw⟩; subst hw)
      go_ret
      exact ⟨by rw [HSK.out]; rfl, rfl⟩
    · have l1 : ¬ ((i : Int) < (s.size : Int)) := by omega
      clear hc
      go_enter Try.func33, Try.ntmps33
      go_wp2
      go_ret
      exact ⟨by rw [HSK.out]; rfl, rfl⟩

/-- A whole piece as a term. -/
def termOf (b : Nat → Nat) (L : Nat) : Int × Bool :=
  if (Pl.sint b L (Pl.skip b L 0)).2.2 = false ∨ (Pl.sint b L (Pl.skip b L 0)).2.1 ≠ L then (0, false) else ((Pl.sint b L (Pl.skip b L 0)).1, true)

theorem term_close (b : Nat → Nat) (L : Nat) (v' : Int) (ok' : Bool) (H : Hid (termOf b L = (v', ok'))) :
    Ending.returned (.tuple #[.int .i64 v', .bool ok']) = .returned (.tuple #[.int .i64 (termOf b L).1, .bool (termOf b L).2]) := by
  rw [H.out]

set_option maxRecDepth 100000 in
set_option maxHeartbeats 1000000 in
theorem term38 (s : ByteArray) (w : World) (hs : s.size ≤ 1048576) :
    Calls Try.prog 38 #[.string s] w fun e w' => e = .returned (.tuple #[.int .i64 (termOf (bt s) s.size).1, .bool (termOf (bt s) s.size).2]) ∧ w = w' := by
  obtain ⟨p1, p2, _⟩ := Pl.skip_spec (bt s) s.size 0 (Nat.zero_le _)
  have hk := fun W => skip33 s 0 W (Nat.zero_le _) hs
  have hq := fun W => sint32 s (Pl.skip (bt s) s.size 0) W p2 hs
  have ht : termOf (bt s) s.size = if (Pl.sint (bt s) s.size (Pl.skip (bt s) s.size 0)).2.2 = false ∨ (Pl.sint (bt s) s.size (Pl.skip (bt s) s.size 0)).2.1 ≠ s.size then (0, false) else ((Pl.sint (bt s) s.size (Pl.skip (bt s) s.size 0)).1, true) := rfl
  generalize Pl.sint (bt s) s.size (Pl.skip (bt s) s.size 0) = x at hq ht
  obtain ⟨v, en, ok⟩ := x
  generalize Pl.skip (bt s) s.size 0 = k at *
  dsimp only at hq ht
  have HK := hide hk
  have HQ := hide hq
  clear hk hq
  cases ok
  · rw [if_pos (Or.inl rfl)] at ht
    have HT := hide ht
    clear ht
    go_enter Try.func38, Try.ntmps38
    go_wp2_with fail
    refine (HK.out _).mono ?_
    rintro e w1 ⟨rfl, hw⟩
    subst hw
    go_wp2_with fail
    refine (HQ.out _).mono ?_
    rintro e w1 ⟨rfl, hw⟩
    subst hw
    go_wp2
    go_ret2
    exact ⟨term_close _ _ _ _ HT, rfl⟩
  · by_cases he : en = s.size
    · rw [if_neg (by simp [he])] at ht
      have HT := hide ht
      have ee : ((en : Int) != (s.size : Int)) = false := by rw [bne_eq_false_iff_eq]; omega
      clear he ht
      go_enter Try.func38, Try.ntmps38
      go_wp2_with fail
      refine (HK.out _).mono ?_
      rintro e w1 ⟨rfl, hw⟩
      subst hw
      go_wp2_with fail
      refine (HQ.out _).mono ?_
      rintro e w1 ⟨rfl, hw⟩
      subst hw
      go_wp2
      go_ret2
      exact ⟨term_close _ _ _ _ HT, rfl⟩
    · rw [if_pos (Or.inr he)] at ht
      have HT := hide ht
      have ee : ((en : Int) != (s.size : Int)) = true := by rw [bne_iff_ne]; omega
      clear he ht
      go_enter Try.func38, Try.ntmps38
      go_wp2_with fail
      refine (HK.out _).mono ?_
      rintro e w1 ⟨rfl, hw⟩
      subst hw
      go_wp2_with fail
      refine (HQ.out _).mono ?_
      rintro e w1 ⟨rfl, hw⟩
      subst hw
      go_wp2
      go_ret2
      exact ⟨term_close _ _ _ _ HT, rfl⟩

set_option maxRecDepth 100000 in
set_option maxHeartbeats 1000000 in
theorem blankRun39 (s : ByteArray) (w : World) (hs : s.size ≤ 1048576) :
    Calls Try.prog 39 #[.string s] w fun e w' => e = .returned (.bool (decide (0 < s.size ∧ Pl.skip (bt s) s.size 0 = s.size))) ∧ w = w' := by
  by_cases h0 : 0 < s.size
  · have l0 : (0 : Int) < (s.size : Int) := by omega
    by_cases he : Pl.skip (bt s) s.size 0 = s.size
    · rw [decide_eq_true ⟨h0, he⟩]
      have hc := fun W => skip33 s 0 W (Nat.zero_le _) hs
      rw [he] at hc
      have HC := hide hc
      clear hc he
      go_enter Try.func39, Try.ntmps39
      go_wp2_with (go_at_call 33; refine (HC.out _).mono ?_; rintro e w1 ⟨rfl, hw⟩; subst hw)
      go_ret
      exact ⟨rfl, rfl⟩
    · rw [decide_eq_false (fun k => he k.2)]
      have hc := fun W => skip33 s 0 W (Nat.zero_le _) hs
      generalize Pl.skip (bt s) s.size 0 = k at *
      have ek : ((k : Int) == (s.size : Int)) = false := beq_eq_false_iff_ne.2 (by omega)
      have HC := hide hc
      clear hc he
      go_enter Try.func39, Try.ntmps39
      go_wp2_with (go_at_call 33; refine (HC.out _).mono ?_; rintro e w1 ⟨rfl, hw⟩; subst hw)
      go_ret
      exact ⟨rfl, rfl⟩
  · rw [decide_eq_false (fun k => h0 k.1)]
    have l0 : ¬ ((0 : Int) < (s.size : Int)) := by omega
    go_enter Try.func39, Try.ntmps39
    go_wp2
    go_ret
    exact ⟨rfl, rfl⟩

set_option maxRecDepth 100000 in
set_option maxHeartbeats 1000000 in
theorem rank35 (c : Nat) (w : World) : Calls Try.prog 35 #[.int .u8 (c : Int)] w fun e w' => e = .returned (.int .i64 (Pl.rank c)) ∧ w = w' := by
  by_cases h : c = 100 ∨ c = 104 ∨ c = 109 ∨ c = 115
  · rcases h with rfl | rfl | rfl | rfl
    all_goals
      go_enter Try.func35, Try.ntmps35
      go_wp2
      go_ret
      exact ⟨rfl, rfl⟩
  have hF : Hid (Pl.rank c = -1) := by
    show _ = _
    unfold Pl.rank
    rw [if_neg (by omega), if_neg (by omega), if_neg (by omega), if_neg (by omega)]
  have e1 : ((c : Int) == 100) = false := beq_eq_false_iff_ne.2 (by omega)
  have e2 : ((c : Int) == 104) = false := beq_eq_false_iff_ne.2 (by omega)
  have e3 : ((c : Int) == 109) = false := beq_eq_false_iff_ne.2 (by omega)
  have e4 : ((c : Int) == 115) = false := beq_eq_false_iff_ne.2 (by omega)
  clear h
  go_enter Try.func35, Try.ntmps35
  go_wp2
  go_ret
  exact ⟨by rw [hF.out]; rfl, rfl⟩

set_option maxRecDepth 100000 in
set_option maxHeartbeats 1000000 in
theorem scale36 (r : Nat) (w : World) : Calls Try.prog 36 #[.int .i64 (r : Int)] w fun e w' => e = .returned (.int .i64 (Pl.scale (r : Int))) ∧ w = w' := by
  by_cases h : r = 0 ∨ r = 1 ∨ r = 2
  · rcases h with rfl | rfl | rfl
    all_goals
      go_enter Try.func36, Try.ntmps36
      go_wp2
      go_ret
      exact ⟨rfl, rfl⟩
  have hF : Hid (Pl.scale (r : Int) = 1) := by
    show _ = _
    unfold Pl.scale
    rw [if_neg (by omega), if_neg (by omega), if_neg (by omega)]
  have e1 : ((r : Int) == 0) = false := beq_eq_false_iff_ne.2 (by omega)
  have e2 : ((r : Int) == 1) = false := beq_eq_false_iff_ne.2 (by omega)
  have e3 : ((r : Int) == 2) = false := beq_eq_false_iff_ne.2 (by omega)
  clear h
  go_enter Try.func36, Try.ntmps36
  go_wp2
  go_ret
  exact ⟨by rw [hF.out]; rfl, rfl⟩
end Go.Proofs.Qxb6600554a

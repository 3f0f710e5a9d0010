import Derived.Test.Qxb6600554aWkk
import Derived.Test.Qxb6600554aWkf
import Derived.Test.Qxb6600554aWkg
import Derived.Laws.OwnMore
namespace Go.Proofs.Qxb6600554a
open Go.RowKit

/-- The reading behind its first number. -/
def readT (b : Nat → Nat) (L : Nat) (v : Int) (e : Nat) (ok : Bool) : Int × Bool :=
  if ok = false then (0, false)
  else if e = L then (v, true)
  else if b e = 45 then Pl.mC (cD v) (cC v) b L true (L - (e + 1) + 2) (e + 1) (e + 1) 0 0 0 0
  else if b e = 58 then Pl.mC (cD v) (cC v) b L false (L - (e + 1) + 2) (e + 1) (e + 1) 0 0 0 0
  else if b e = 115 then (v, decide (e + 1 = L))
  else if Pl.rank (b e) < 0 then (0, false)
  else Pl.mU stepU b L (L - (e + 1) + 1) (e + 1) (e + 1) (wrap64 (v * Pl.scale (Pl.rank (b e)))) (Pl.rank (b e) + 1) (b e)

def readR (s : ByteArray) : Int × Bool :=
  readT (bt s) s.size (Pl.sint (bt s) s.size (Pl.skip (bt s) s.size 0)).1 (Pl.sint (bt s) s.size (Pl.skip (bt s) s.size 0)).2.1 (Pl.sint (bt s) s.size (Pl.skip (bt s) s.size 0)).2.2

set_option maxRecDepth 100000 in
set_option maxHeartbeats 2000000 in
theorem read12 (s : ByteArray) (w : World) (hs : s.size ≤ 1048576) : Calls Try.prog 12 #[.string s] w (MSaid w (readR s)) := by
  obtain ⟨p1, p2, _⟩ := Pl.skip_spec (bt s) s.size 0 (Nat.zero_le _)
  have hk := fun W => skip33 s 0 W (Nat.zero_le _) hs
  have hq := fun W => sint32 s (Pl.skip (bt s) s.size 0) W p2 hs
  obtain ⟨q1, q2, q3, q4⟩ := Pl.sint_spec (bt s) s.size (Pl.skip (bt s) s.size 0) p2
  have qb := Pl.sint_bound (bt s) s.size (Pl.skip (bt s) s.size 0)
  generalize hR : readR s = R
  unfold readR at hR
  generalize Pl.sint (bt s) s.size (Pl.skip (bt s) s.size 0) = x at *
  obtain ⟨v, en, ok⟩ := x
  generalize Pl.skip (bt s) s.size 0 = k at *
  dsimp only at hq hR q1 q2 q3 q4 qb
  obtain ⟨b1, b2⟩ := qb
  have HK := hide hk
  have HQ := hide hq
  clear hk hq q3 q4 p1
  unfold readT at hR
  cases ok
  · rw [if_pos rfl] at hR
    have HR := hide hR
    clear hR
    go_enter Try.func12, Try.ntmps12
    go_wp2_with (first | (go_at_call 33; refine (HK.out _).mono ?_; rintro e w1 ⟨rfl, hw⟩; subst hw) | (go_at_call 32; refine (HQ.out _).mono ?_; rintro e w1 ⟨rfl, hw⟩; subst hw))
    go_ret2
    exact m_close HR.out
  rw [if_neg (by decide)] at hR
  by_cases he : en = s.size
  · rw [if_pos he] at hR
    have HR := hide hR
    have ee : ((en : Int) == (s.size : Int)) = true := by rw [beq_iff_eq]; omega
    clear hR he
    go_enter Try.func12, Try.ntmps12
    go_wp2_with (first | (go_at_call 33; refine (HK.out _).mono ?_; rintro e w1 ⟨rfl, hw⟩; subst hw) | (go_at_call 32; refine (HQ.out _).mono ?_; rintro e w1 ⟨rfl, hw⟩; subst hw))
    go_ret2
    exact m_close HR.out
  rw [if_neg he] at hR
  have hlt : en < s.size := by omega
  have l1 : (en : Int) < (s.size : Int) := by omega
  have ee : ((en : Int) == (s.size : Int)) = false := beq_eq_false_iff_ne.2 (by omega)
  have hb := bt_at s en hlt
  clear he
  by_cases h45 : bt s en = 45
  · rw [if_pos h45] at hR
    have hcl := fun W => clock34 s (en + 1) v true W (by omega) hs
    rw [hR] at hcl
    have e45 : (s[en].toNat : Int) = 45 := by omega
    have HCL := hide hcl
    clear hcl hR hb h45
    go_enter Try.func12, Try.ntmps12
    go_wp2_with (first | (go_at_call 33; refine (HK.out _).mono ?_; rintro e w1 ⟨rfl, hw⟩; subst hw) | (go_at_call 32; refine (HQ.out _).mono ?_; rintro e w1 ⟨rfl, hw⟩; subst hw) | (go_at_call 34; refine (HCL.out _).mono ?_; rintro e w1 ⟨rfl, hw⟩; subst hw))
    go_ret2
    exact m_close rfl
  rw [if_neg h45] at hR
  have e45 : ((s[en].toNat : Int) == 45) = false := beq_eq_false_iff_ne.2 (by omega)
  by_cases h58 : bt s en = 58
  · rw [if_pos h58] at hR
    have hcl := fun W => clock34 s (en + 1) v false W (by omega) hs
    rw [hR] at hcl
    have e58 : ((s[en].toNat : Int) == 58) = true := by rw [beq_iff_eq]; omega
    have HCL := hide hcl
    clear hcl hR hb h45 h58
    go_enter Try.func12, Try.ntmps12
    go_wp2_with (first | (go_at_call 33; refine (HK.out _).mono ?_; rintro e w1 ⟨rfl, hw⟩; subst hw) | (go_at_call 32; refine (HQ.out _).mono ?_; rintro e w1 ⟨rfl, hw⟩; subst hw) | (go_at_call 34; refine (HCL.out _).mono ?_; rintro e w1 ⟨rfl, hw⟩; subst hw))
    go_ret2
    exact m_close rfl
  rw [if_neg h58] at hR
  have e58 : ((s[en].toNat : Int) == 58) = false := beq_eq_false_iff_ne.2 (by omega)
  by_cases h115 : bt s en = 115
  · rw [if_pos h115] at hR
    have e115 : ((s[en].toNat : Int) == 115) = true := by rw [beq_iff_eq]; omega
    by_cases hee : en + 1 = s.size
    · rw [decide_eq_true hee] at hR
      have HR := hide hR
      have ez : ((en : Int) + 1 == (s.size : Int)) = true := by rw [beq_iff_eq]; omega
      clear hR hb h45 h58 h115 hee
      go_enter Try.func12, Try.ntmps12
      go_wp2_with (first | (go_at_call 33; refine (HK.out _).mono ?_; rintro e w1 ⟨rfl, hw⟩; subst hw) | (go_at_call 32; refine (HQ.out _).mono ?_; rintro e w1 ⟨rfl, hw⟩; subst hw))
      go_ret2
      exact m_close HR.out
    · rw [decide_eq_false hee] at hR
      have HR := hide hR
      have ez : ((en : Int) + 1 == (s.size : Int)) = false := beq_eq_false_iff_ne.2 (by omega)
      clear hR hb h45 h58 h115 hee
      go_enter Try.func12, Try.ntmps12
      go_wp2_with (first | (go_at_call 33; refine (HK.out _).mono ?_; rintro e w1 ⟨rfl, hw⟩; subst hw) | (go_at_call 32; refine (HQ.out _).mono ?_; rintro e w1 ⟨rfl, hw⟩; subst hw))
      go_ret2
      exact m_close HR.out
  rw [if_neg h115] at hR
  have e115 : ((s[en].toNat : Int) == 115) = false := beq_eq_false_iff_ne.2 (by omega)
  have hcr := fun W => rank35 s[en].toNat W
  rw [← hb] at hcr
  have hrb := rank_cases (bt s en)
  by_cases hneg : Pl.rank (bt s en) < 0
  · rw [if_pos hneg] at hR
    have HR := hide hR
    have HC := hide hcr
    have HB := hide hb
    clear hcr hb hR hrb h45 h58 h115
    generalize Pl.rank (bt s en) = r at *
    go_enter Try.func12, Try.ntmps12
    go_wp2_with (first | (go_at_call 33; refine (HK.out _).mono ?_; rintro e w1 ⟨rfl, hw⟩; subst hw) | (go_at_call 32; refine (HQ.out _).mono ?_; rintro e w1 ⟨rfl, hw⟩; subst hw) | (go_at_call 35; rw [← HB.out]; refine (HC.out _).mono ?_; rintro e w1 ⟨rfl, hw⟩; subst hw))
    go_ret2
    exact m_close HR.out
  · rw [if_neg hneg] at hR
    have hr0 : 0 ≤ Pl.rank (bt s en) := by omega
    have hr3 : Pl.rank (bt s en) ≤ 3 := by omega
    have hsc := fun W => scale36 (Pl.rank (bt s en)).toNat W
    rw [show ((Pl.rank (bt s en)).toNat : Int) = Pl.rank (bt s en) by omega] at hsc
    have hun := fun W => units18 s (en + 1) (wrap64 (v * Pl.scale (Pl.rank (bt s en)))) (Pl.rank (bt s en) + 1) (bt s en) W (by omega) hs (by omega) (by omega)
    rw [hR] at hun
    rw [hb] at hun
    rw [hb] at hcr hsc hr0 hr3
    have HU := hide hun
    have HSC := hide hsc
    have HC := hide hcr
    clear hcr hb hR hrb h45 h58 h115 hun hsc hneg
    generalize Pl.rank s[en].toNat = r at *
    go_enter Try.func12, Try.ntmps12
    go_wp2_with (first | (go_at_call 33; refine (HK.out _).mono ?_; rintro e w1 ⟨rfl, hw⟩; subst hw) | (go_at_call 32; refine (HQ.out _).mono ?_; rintro e w1 ⟨rfl, hw⟩; subst hw) | (go_at_call 35; refine (HC.out _).mono ?_; rintro e w1 ⟨rfl, hw⟩; subst hw) | (go_at_call 36; refine (HSC.out _).mono ?_; rintro e w1 ⟨rfl, hw⟩; subst hw) | (go_at_call 18; refine (HU.out _).mono ?_; rintro e w1 ⟨rfl, hw⟩; subst hw))
    go_ret2
    exact m_close rfl
end Go.Proofs.Qxb6600554a

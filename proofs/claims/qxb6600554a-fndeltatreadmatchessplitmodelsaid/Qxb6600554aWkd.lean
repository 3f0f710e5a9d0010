import Derived.Test.Qxb6600554aWkc
namespace Go.Proofs.Qxb6600554a
open Go.RowKit

/-- What number hands back. -/
def NumSaid (B : Nat) (s : ByteArray) (i : Nat) (w : World) (e : Ending) (w' : World) : Prop :=
  Same B w w' ∧ e = .returned (.tuple #[.int .i64 (Pl.sint (bt s) s.size (Pl.skip (bt s) s.size i)).1, .bool (Pl.sint (bt s) s.size (Pl.skip (bt s) s.size i)).2.2]) ∧ At B s (Pl.sint (bt s) s.size (Pl.skip (bt s) s.size i)).2.1 w'

/-- A number, the sign read: what is said of it. -/
theorem sint_of (b : Nat → Nat) (L p : Nat) (k : Nat) (hk : k = Pl.stop Pl.isDig b L (Pl.signEnd b L p) - Pl.signEnd b L p) (hle : Pl.signEnd b L p ≤ Pl.stop Pl.isDig b L (Pl.signEnd b L p)) :
    (k = 0 ∨ 2147483647 < Pl.sat b (Pl.signEnd b L p) k → Pl.sint b L p = (0, Pl.stop Pl.isDig b L (Pl.signEnd b L p), false)) ∧
    (¬ (k = 0 ∨ 2147483647 < Pl.sat b (Pl.signEnd b L p) k) → (p < L ∧ b p = 45) → Pl.sint b L p = (-(Pl.sat b (Pl.signEnd b L p) k : Int), Pl.stop Pl.isDig b L (Pl.signEnd b L p), true)) ∧
    (¬ (k = 0 ∨ 2147483647 < Pl.sat b (Pl.signEnd b L p) k) → ¬ (p < L ∧ b p = 45) → Pl.sint b L p = ((Pl.sat b (Pl.signEnd b L p) k : Int), Pl.stop Pl.isDig b L (Pl.signEnd b L p), true)) := by
  have hs := Pl.sat_eq b (Pl.signEnd b L p) k
  unfold Pl.sint
  rw [← hk]
  generalize Pl.num b (Pl.signEnd b L p) k = N at *
  generalize Pl.sat b (Pl.signEnd b L p) k = S at *
  have hc : (Pl.stop Pl.isDig b L (Pl.signEnd b L p) = Pl.signEnd b L p ∨ 2147483647 < N) ↔ (k = 0 ∨ 2147483647 < S) := by omega
  refine ⟨fun h => ?_, fun h g => ?_, fun h g => ?_⟩
  · rw [if_pos (hc.2 h)]
  · rw [if_neg (fun x => h (hc.1 x)), if_pos g, show N = S by omega]
  · rw [if_neg (fun x => h (hc.1 x)), if_neg g, show N = S by omega]

theorem num_close {B : Nat} {s : ByteArray} {i p en : Nat} {w w2 : World} {v : Int} {ok : Bool} (hp : Pl.skip (bt s) s.size i = p) (he : Pl.sint (bt s) s.size p = (v, en, ok)) (h1 : Same B w w2) (h2 : At B s en w2) :
    NumSaid B s i w (.returned (.tuple #[.int .i64 v, .bool ok])) w2 := by
  refine ⟨h1, ?_, ?_⟩
  · rw [hp, he]
  · rw [hp, he]; exact h2

set_option maxRecDepth 100000 in
set_option maxHeartbeats 1000000 in
theorem number42 (B : Nat) (s : ByteArray) (i : Nat) (w : World) (ha : At B s i w) (hi : i ≤ s.size) (hs : s.size ≤ 1048576) :
    Calls Try.prog 42 #[.pointer (some ⟨B, 0, none⟩)] w (NumSaid B s i w) := by
  obtain ⟨p1, p2, _⟩ := Pl.skip_spec (bt s) s.size i hi
  have HA0 := hide ha
  clear ha
  go_enter Try.func42, Try.ntmps42
  go_wp2_with fail
  refine (blanks48 B s i w HA0.out hi hs).mono ?_
  rintro e w1 ⟨hsame, rfl, hat⟩
  generalize hp : Pl.skip (bt s) s.size i = p at hat p1 p2
  have HP := hide hp
  clear hp
  have HS := hide hsame
  have HA := hide hat
  obtain ⟨c0, c1, z1⟩ := hat
  clear hsame
  by_cases hng : p < s.size ∧ bt s p = 45
  · have HNG := hide hng
    obtain ⟨hlt, h45⟩ := hng
    have l1 : (p : Int) < (s.size : Int) := by omega
    have e45 : ((s[p].toNat : Int) == 45) = true := by rw [← bt_at s p hlt]; simp [h45]
    clear h45
    go_wp2
    go_quiet (fail)
    go_wp2_with fail
    refine (digits51 B s (p + 1) _ ((HA.out.drewN nq).set (p + 1) _ (by omega)) (by omega) hs).mono ?_
    rintro e w2 ⟨hs2, rfl, ha2⟩
    have hse : Pl.signEnd (bt s) s.size p = (p + 1) := by unfold Pl.signEnd; rw [if_pos HNG.out]
    have hle := (Pl.stop_spec Pl.isDig (bt s) s.size (p + 1) (by omega)).1
    have hsi := sint_of (bt s) s.size p (Pl.stop Pl.isDig (bt s) s.size (p + 1) - (p + 1)) (by rw [hse]) (by rw [hse]; exact hle)
    rw [hse] at hsi
    have hsatle := Pl.sat_le (bt s) (p + 1) (Pl.stop Pl.isDig (bt s) s.size (p + 1) - (p + 1))
    have HS2 := hide (((HS.out.drewN nq).set 1 (.int .i64 ((p : Int) + 1))).trans hs2)
    have HA2 := hide ha2
    clear hs2 ha2 hse hle
    generalize Pl.stop Pl.isDig (bt s) s.size (p + 1) = en at *
    generalize Pl.sat (bt s) (p + 1) (en - (p + 1)) = S at *
    generalize en - (p + 1) = k at *
    by_cases hk : k = 0
    · have HE := hide (hsi.1 (Or.inl hk))
      clear hsi
      subst hk
      go_wp2
      go_ret2
      exact num_close HP.out HE.out HS2.out HA2.out
    · have ek : ((k : Int) == 0) = false := beq_eq_false_iff_ne.2 (by omega)
      by_cases hS : 2147483647 < S
      · have eS : (2147483647 : Int) < (S : Int) := by omega
        have HE := hide (hsi.1 (Or.inr hS))
        clear hsi
        go_wp2
        go_ret2
        exact num_close HP.out HE.out HS2.out HA2.out
      · have eS : (S : Int) ≤ 2147483647 := by omega
        have HE := hide (hsi.2.1 (by omega) HNG.out)
        clear hsi
        go_wp2
        go_ret2
        exact num_close HP.out HE.out HS2.out HA2.out
  · have HNG := hide hng
    by_cases hlt : p < s.size
    · have l1 : (p : Int) < (s.size : Int) := by omega
      have e45 : ((s[p].toNat : Int) == 45) = false := by
        rw [← bt_at s p hlt, beq_eq_false_iff_ne]
        intro h
        exact hng ⟨hlt, by omega⟩
      clear hng
      go_wp2
      go_quiet (fail)
      go_wp2_with fail
      refine (digits51 B s p _ (HA.out.drewN nq) (by omega) hs).mono ?_
      rintro e w2 ⟨hs2, rfl, ha2⟩
      have hse : Pl.signEnd (bt s) s.size p = p := by unfold Pl.signEnd; rw [if_neg HNG.out]
      have hle := (Pl.stop_spec Pl.isDig (bt s) s.size p (by omega)).1
      have hsi := sint_of (bt s) s.size p (Pl.stop Pl.isDig (bt s) s.size p - p) (by rw [hse]) (by rw [hse]; exact hle)
      rw [hse] at hsi
      have hsatle := Pl.sat_le (bt s) p (Pl.stop Pl.isDig (bt s) s.size p - p)
      have HS2 := hide ((HS.out.drewN nq).trans hs2)
      have HA2 := hide ha2
      clear hs2 ha2 hse hle
      generalize Pl.stop Pl.isDig (bt s) s.size p = en at *
      generalize Pl.sat (bt s) p (en - p) = S at *
      generalize en - p = k at *
      by_cases hk : k = 0
      · have HE := hide (hsi.1 (Or.inl hk))
        clear hsi
        subst hk
        go_wp2
        go_ret2
        exact num_close HP.out HE.out HS2.out HA2.out
      · have ek : ((k : Int) == 0) = false := beq_eq_false_iff_ne.2 (by omega)
        by_cases hS : 2147483647 < S
        · have eS : (2147483647 : Int) < (S : Int) := by omega
          have HE := hide (hsi.1 (Or.inr hS))
          clear hsi
          go_wp2
          go_ret2
          exact num_close HP.out HE.out HS2.out HA2.out
        · have eS : (S : Int) ≤ 2147483647 := by omega
          have HE := hide (hsi.2.2 (by omega) HNG.out)
          clear hsi
          go_wp2
          go_ret2
          exact num_close HP.out HE.out HS2.out HA2.out
    · have l1 : decide ((p : Int) < (s.size : Int)) = false := by simp; omega
      clear hng
      go_wp2
      go_quiet (fail)
      go_wp2_with fail
      refine (digits51 B s p _ (HA.out.drewN nq) (by omega) hs).mono ?_
      rintro e w2 ⟨hs2, rfl, ha2⟩
      have hse : Pl.signEnd (bt s) s.size p = p := by unfold Pl.signEnd; rw [if_neg HNG.out]
      have hle := (Pl.stop_spec Pl.isDig (bt s) s.size p (by omega)).1
      have hsi := sint_of (bt s) s.size p (Pl.stop Pl.isDig (bt s) s.size p - p) (by rw [hse]) (by rw [hse]; exact hle)
      rw [hse] at hsi
      have hsatle := Pl.sat_le (bt s) p (Pl.stop Pl.isDig (bt s) s.size p - p)
      have HS2 := hide ((HS.out.drewN nq).trans hs2)
      have HA2 := hide ha2
      clear hs2 ha2 hse hle
      generalize Pl.stop Pl.isDig (bt s) s.size p = en at *
      generalize Pl.sat (bt s) p (en - p) = S at *
      generalize en - p = k at *
      by_cases hk : k = 0
      · have HE := hide (hsi.1 (Or.inl hk))
        clear hsi
        subst hk
        go_wp2
        go_ret2
        exact num_close HP.out HE.out HS2.out HA2.out
      · have ek : ((k : Int) == 0) = false := beq_eq_false_iff_ne.2 (by omega)
        by_cases hS : 2147483647 < S
        · have eS : (2147483647 : Int) < (S : Int) := by omega
          have HE := hide (hsi.1 (Or.inr hS))
          clear hsi
          go_wp2
          go_ret2
          exact num_close HP.out HE.out HS2.out HA2.out
        · have eS : (S : Int) ≤ 2147483647 := by omega
          have HE := hide (hsi.2.2 (by omega) HNG.out)
          clear hsi
          go_wp2
          go_ret2
          exact num_close HP.out HE.out HS2.out HA2.out
end Go.Proofs.Qxb6600554a

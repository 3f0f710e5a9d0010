import Derived.Test.Qxb6600554aWkl
namespace Go.Proofs.Qxb6600554a
open Go.RowKit

theorem below_drewN {B : Nat} {a w : World} (h : Below B a w) (n : Nat) : Below B a (w.drewN n) := ⟨h.os, h.tape, h.output, h.size, h.block⟩

def RSaid (B : Nat) (w : World) (R : Int × Bool) (e : Ending) (w' : World) : Prop :=
  Below B w w' ∧ e = .returned (.tuple #[.int .i64 R.1, .bool R.2])
theorem r_close {B : Nat} {w w' : World} {R : Int × Bool} {v : Int} {ok : Bool} (h : (v, ok) = R) (hs : Below B w w') : RSaid B w R (.returned (.tuple #[.int .i64 v, .bool ok])) w' := by
  subst h
  exact ⟨hs, rfl⟩

theorem wrap64_twice (n : Int) : wrap64 (wrap64 n + 0) = wrap64 n := by unfold wrap64; omega
theorem cC_one (v x : Int) : cC v x 0 = wrap64 (wrap64 (v * 3600) + wrap64 (x * 60)) := wrap64_twice _

theorem iv_at (l : List Int) (j : Nat) (x : Int) (h : l[j]? = some x) : (iv l)[j]? = some (.int .i64 x) := by
  unfold iv; rw [List.getElem?_map, h]; rfl
theorem own_at {w : World} {B g cap : Nat} {l : List Int} (h : w.ownsRow (B + 1) 2 1 (.slice (some ⟨g, 0, none⟩) l.length cap) l.length (iv l)) (j : Nat) (x : Int) (hj : l[j]? = some x) : w.cell? ⟨g, j, none⟩ = some (.int .i64 x) := by
  have hlt : j < l.length := by
    rcases Nat.lt_or_ge j l.length with k | k
    · exact k
    · rw [List.getElem?_eq_none k] at hj; cases hj
  rw [h.cellAt j (by omega), iv_at l j x hj]

set_option maxRecDepth 100000 in
set_option maxHeartbeats 4000000 in
theorem read31 (B : Nat) (s : ByteArray) (w : World) (ha : At B s 0 w) (hs : s.size ≤ 1048576) (hB : B < w.heap.size) (hnul : ∀ j, j < s.size → bt s j ≠ 0) :
    Calls Try.prog 31 #[.pointer (some ⟨B, 0, none⟩)] w (RSaid B w (readR s)) := by
  obtain ⟨p1, p2, _⟩ := Pl.skip_spec (bt s) s.size 0 (Nat.zero_le _)
  have hq := number42 B s 0 w ha (Nat.zero_le _) hs
  unfold NumSaid at hq
  obtain ⟨q1, q2, q3, q4⟩ := Pl.sint_spec (bt s) s.size (Pl.skip (bt s) s.size 0) p2
  generalize hR : readR s = R
  unfold readR at hR
  generalize Pl.sint (bt s) s.size (Pl.skip (bt s) s.size 0) = x at *
  obtain ⟨v, en, ok⟩ := x
  generalize Pl.skip (bt s) s.size 0 = k at *
  dsimp only at hq hR q1 q2 q3 q4
  have HN := hide hnul
  have HQ := hide hq
  have HR := hide hR
  clear hq q3 q4 p1 hnul ha hR
  go_enter Try.func31, Try.ntmps31
  go_wp2_with fail
  refine HQ.out.mono ?_
  rintro e w1 ⟨hs1, rfl, ha1⟩
  have HS1 := hide hs1
  have HA1 := hide ha1
  have hB1 : B < w1.heap.size := by rw [hs1.size]; exact hB
  clear hs1 ha1 HQ
  have hR := HR.out
  unfold readT at hR
  cases ok
  · rw [if_pos rfl] at hR
    have HR2 := hide hR
    clear hR HR
    go_wp2
    go_ret2
    exact r_close HR2.out HS1.out.below
  rw [if_neg (by decide)] at hR
  go_wp2_with fail
  refine (next43 B s en w1 HA1.out q2 hs).mono ?_
  rintro e w2 ⟨hs2, hcase⟩
  have HS2 := hide (HS1.out.trans hs2)
  have hB2 : B < w2.heap.size := by rw [hs2.size]; exact hB1
  clear hs2 HR
  rcases hcase with ⟨he, rfl, ha2⟩ | ⟨hlt, he2, ha2⟩
  · rw [if_pos he] at hR
    have HR := hide hR
    clear hR he ha2
    go_wp2
    go_ret2
    exact r_close HR.out HS2.out.below
  have HA2 := hide ha2
  clear ha2
  rw [if_neg (show ¬ en = s.size by omega)] at hR
  have hz := HN.out en hlt
  generalize hc : bt s en = c at *
  have HC := hide hc
  clear hc
  subst he2
  by_cases h45 : c = 45
  · subst h45
    rw [if_pos rfl] at hR
    rw [← Pl.clock0 (cD v) (cC v) (bt s) s.size true (en + 1) (s.size - (en + 1) + 1) _ (by omega) (by omega) (by omega)] at hR
    have hlong := Pl.gC_long (bt s) s.size (s.size - (en + 1) + 1) (en + 1) []
    have hcl := clock44 B s (en + 1) w2 HA2.out (by omega) hs hB2 HN.out
    generalize Pl.gC (bt s) s.size (s.size - (en + 1) + 1) (en + 1) [] = G at *
    have HCL := hide hcl
    have HLong := hide hlong
    have HR := hide hR
    clear hcl hlong hR
    go_wp2_with fail
    refine HCL.out.mono ?_
    rintro e w3 ⟨hb3, hcase⟩
    have HB3 := hide (HS2.out.below.trans hb3)
    clear hb3
    rcases hcase with ⟨hg, rfl⟩ | ⟨l, sv, hg, rfl, hown⟩
    · have HR2 : Hid (((0 : Int), false) = R) := by show _ = _; rw [← HR.out, hg]; rfl
      clear hg
      go_wp2
      go_ret2
      exact r_close HR2.out HB3.out
    · have hl0 : 0 < l.length := by have := HLong.out l hg; simpa using this
      obtain ⟨g, cap, rfl, _, _⟩ := hown.form hl0
      have HOwn := hide hown
      clear hown
      by_cases h3 : l.length = 3
      · obtain ⟨x, y, z, rfl⟩ : ∃ x y z, l = [x, y, z] := by
          match l, h3 with
          | [x, y, z], _ => exact ⟨x, y, z, rfl⟩
        have g0 := own_at HOwn.out 0 x rfl
        have g1 := own_at HOwn.out 1 y rfl
        have g2 := own_at HOwn.out 2 z rfl
        have HR2 : Hid ((cD v x y z, true) = R) := by show _ = _; rw [← HR.out, hg]; rfl
        clear hg h3 hl0
        simp only [List.length_cons, List.length_nil] at *
        go_wp2
        go_quiet (fail)
        go_wp2
        go_ret2
        exact r_close HR2.out (below_drewN HB3.out _)
      · have HR2 : Hid (((0 : Int), false) = R) := by
          show _ = _
          rw [← HR.out, hg]
          match l, h3 with
          | [], _ => rfl
          | [x], _ => rfl
          | [x, y], _ => rfl
          | x :: y :: z :: u :: l, _ => rfl
        have e3 : ((l.length : Int) != 3) = true := by rw [bne_iff_ne]; omega
        clear hg h3
        go_wp2
        go_ret2
        exact r_close HR2.out HB3.out
  rw [if_neg h45] at hR
  have e45 : ((c : Int) == 45) = false := beq_eq_false_iff_ne.2 (by omega)
  by_cases h58 : c = 58
  · subst h58
    rw [if_pos rfl] at hR
    rw [← Pl.clock0 (cD v) (cC v) (bt s) s.size false (en + 1) (s.size - (en + 1) + 1) _ (by omega) (by omega) (by omega)] at hR
    have hlong := Pl.gC_long (bt s) s.size (s.size - (en + 1) + 1) (en + 1) []
    have hcl := clock44 B s (en + 1) w2 HA2.out (by omega) hs hB2 HN.out
    generalize Pl.gC (bt s) s.size (s.size - (en + 1) + 1) (en + 1) [] = G at *
    have HCL := hide hcl
    have HLong := hide hlong
    have HR := hide hR
    clear hcl hlong hR h45 e45 hz
    go_wp2_with fail
    refine HCL.out.mono ?_
    rintro e w3 ⟨hb3, hcase⟩
    have HB3 := hide (HS2.out.below.trans hb3)
    clear hb3
    rcases hcase with ⟨hg, rfl⟩ | ⟨l, sv, hg, rfl, hown⟩
    · have HR2 : Hid (((0 : Int), false) = R) := by show _ = _; rw [← HR.out, hg]; rfl
      clear hg
      go_wp2
      go_ret2
      exact r_close HR2.out HB3.out
    · have hl0 : 0 < l.length := by have := HLong.out l hg; simpa using this
      obtain ⟨g, cap, rfl, _, _⟩ := hown.form hl0
      have HOwn := hide hown
      clear hown
      by_cases h3 : 2 < l.length
      · have HR2 : Hid (((0 : Int), false) = R) := by
          show _ = _
          rw [← HR.out, hg]
          match l, h3 with
          | [x, y, z], _ => rfl
          | x :: y :: z :: u :: l, _ => rfl
        have e3 : (2 : Int) < (l.length : Int) := by omega
        clear hg h3
        go_wp2
        go_ret2
        exact r_close HR2.out HB3.out
      · by_cases h1 : l.length = 1
        · obtain ⟨x, rfl⟩ : ∃ x, l = [x] := by
            match l, h1 with
            | [x], _ => exact ⟨x, rfl⟩
          have g0 := own_at HOwn.out 0 x rfl
          have HR2 : Hid ((wrap64 (wrap64 (v * 3600) + wrap64 (x * 60)), true) = R) := by show _ = _; rw [← cC_one, ← HR.out, hg]; rfl
          clear hg h3 hl0 h1
          simp only [List.length_cons, List.length_nil] at *
          go_wp2
          go_ret2
          exact r_close HR2.out HB3.out
        · obtain ⟨x, y, rfl⟩ : ∃ x y, l = [x, y] := by
            match l, h1, h3, hl0 with
            | [x, y], _, _, _ => exact ⟨x, y, rfl⟩
            | [x], h1, _, _ => exact absurd rfl h1
            | x :: y :: z :: l, _, h3, _ => exact absurd (show 2 < l.length + 1 + 1 + 1 by omega) h3
          have g0 := own_at HOwn.out 0 x rfl
          have g1 := own_at HOwn.out 1 y rfl
          have HR2 : Hid ((cC v x y, true) = R) := by show _ = _; rw [← HR.out, hg]; rfl
          clear hg h3 hl0 h1
          simp only [List.length_cons, List.length_nil] at *
          go_wp2
          go_ret2
          exact r_close HR2.out HB3.out
  rw [if_neg h58] at hR
  have e58 : ((c : Int) == 58) = false := beq_eq_false_iff_ne.2 (by omega)
  by_cases h115 : c = 115
  · subst h115
    rw [if_pos rfl] at hR
    clear h45 h58 e45 e58 hz
    go_wp2_with fail
    refine (next43 B s (en + 1) w2 HA2.out (by omega) hs).mono ?_
    rintro e w3 ⟨hs3, hcase⟩
    have HS3 := hide (HS2.out.trans hs3)
    rcases hcase with ⟨he, rfl, ha3⟩ | ⟨hlt3, he3, ha3⟩
    · rw [decide_eq_true he] at hR
      have HR := hide hR
      clear hR ha3 hs3 he
      go_wp2
      go_ret2
      exact r_close HR.out HS3.out.below
    · rw [decide_eq_false (show ¬ en + 1 = s.size by omega)] at hR
      have HR := hide hR
      have hz3 := HN.out (en + 1) hlt3
      generalize bt s (en + 1) = d at *
      have ed : ((d : Int) == 0) = false := beq_eq_false_iff_ne.2 (by omega)
      subst he3
      clear hR ha3 hs3 hz3
      go_wp2
      go_ret2
      exact r_close HR.out HS3.out.below
  rw [if_neg h115] at hR
  have e115 : ((c : Int) == 115) = false := beq_eq_false_iff_ne.2 (by omega)
  have e0 : ((c : Int) == 0) = false := beq_eq_false_iff_ne.2 (by omega)
  have hun : ∀ (t0 : Int) (lo0 : Nat), 1 ≤ lo0 → lo0 ≤ 4 → Pl.mU stepU (bt s) s.size (s.size - (en + 1) + 1) (en + 1) (en + 1) t0 (lo0 : Int) c = R → Calls Try.prog 37 #[.pointer (some ⟨B, 0, none⟩), .int .i64 t0, .string (us lo0)] w2 (USaid B w2 R) := by
    intro t0 lo0 a1 a2 hm
    have h := units37 B s (en + 1) t0 lo0 w2 HA2.out (by omega) (by omega) hs a1 a2 HN.out
    rw [show bt s (en + 1 - 1) = c from HC.out] at h
    rw [Pl.gU_mU stepU (bt s) s.size (s.size - (en + 1)) (en + 1) t0 (lo0 : Int) c _ (s.size - (en + 1) + 1) (by omega) (Nat.le_refl _) (by omega) (by omega) (by omega), hm] at h
    exact h
  have HS := HS2
  rcases rank_cases c with h | ⟨rfl, h⟩ | ⟨rfl, h⟩ | ⟨rfl, h⟩ | ⟨rfl, h⟩
  · have hrk := h
    rw [h, if_pos (by decide)] at hR
    have HR := hide hR
    have h100 : c ≠ 100 := fun k => by subst k; exact absurd h (by decide)
    have h104 : c ≠ 104 := fun k => by subst k; exact absurd h (by decide)
    have h109 : c ≠ 109 := fun k => by subst k; exact absurd h (by decide)
    have e100 : ((c : Int) == 100) = false := beq_eq_false_iff_ne.2 (by omega)
    have e104 : ((c : Int) == 104) = false := beq_eq_false_iff_ne.2 (by omega)
    have e109 : ((c : Int) == 109) = false := beq_eq_false_iff_ne.2 (by omega)
    clear hR h h100 h104 h109 h45 h58 h115 hz hun hrk
    go_wp2
    go_ret2
    exact r_close HR.out HS.out.below
  · have HU := hide (hun (wrap64 (v * 86400)) 1 (by decide) (by decide) hR)
    clear hR h h45 h58 h115 hz hun e45 e58 e115 e0
    go_wp2_with fail
    refine (HU.out).mono ?_
    rintro e w3 ⟨hs3, rfl⟩
    have HS3 := hide (HS.out.trans hs3)
    clear hs3
    go_wp2
    go_ret2
    exact r_close rfl HS3.out.below
  · have HU := hide (hun (wrap64 (v * 3600)) 2 (by decide) (by decide) hR)
    clear hR h h45 h58 h115 hz hun e45 e58 e115 e0
    go_wp2_with fail
    refine (HU.out).mono ?_
    rintro e w3 ⟨hs3, rfl⟩
    have HS3 := hide (HS.out.trans hs3)
    clear hs3
    go_wp2
    go_ret2
    exact r_close rfl HS3.out.below
  · have HU := hide (hun (wrap64 (v * 60)) 3 (by decide) (by decide) hR)
    clear hR h h45 h58 h115 hz hun e45 e58 e115 e0
    go_wp2_with fail
    refine (HU.out).mono ?_
    rintro e w3 ⟨hs3, rfl⟩
    have HS3 := hide (HS.out.trans hs3)
    clear hs3
    go_wp2
    go_ret2
    exact r_close rfl HS3.out.below
  · exact absurd rfl h115
end Go.Proofs.Qxb6600554a

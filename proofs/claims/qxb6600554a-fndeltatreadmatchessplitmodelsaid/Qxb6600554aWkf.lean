import Derived.Test.Qxb6600554aWke
import Derived.Deep.DrawnRows
import Derived.Deep.CutRange
import Derived.Deep.RegionHeld3
namespace Go.Proofs.Qxb6600554a
open Go.RowKit
attribute [local go_sem ↓] Go.wp_at_zero Go.wp_at_succ

theorem blanksT (B : Nat) (s : ByteArray) (i : Nat) (w : World) (ha : At B s i w) (hs : s.size ≤ 1048576) (hlt : i < s.size) (hst : Pl.isSt (bt s i) = true) :
    Calls Try.prog 48 #[.pointer (some ⟨B, 0, none⟩)] w fun e w' => e = .returned (.bool true) ∧ Same B w w' ∧ At B s (Pl.skip (bt s) s.size i) w' :=
  (blanks48 B s i w ha (by omega) hs).mono (by
    rintro e w' ⟨h1, rfl, h2⟩
    exact ⟨by rw [hst]; simp [hlt], h1, h2⟩)
theorem quiet_of2 {f : FuncId} {args : Array Value} {v : Value} (w : World) (a n : Nat) (h : Calls Try.prog f args (w.drewN (a + n)) fun e w' => e = .returned v ∧ ∃ m, w' = (w.drewN (a + n)).drewN m) : Calls Try.prog f args (w.drewN (a + n)) fun e w' => e = .returned v ∧ ∃ m, w' = w.drewN (a + m) :=
  h.mono (by
    rintro e w' ⟨rfl, m, rfl⟩
    exact ⟨rfl, n + m, by simp [Nat.add_assoc]⟩)

set_option maxRecDepth 100000 in
set_option maxHeartbeats 1000000 in
theorem blanksQ (B : Nat) (s : ByteArray) (i : Nat) (w : World) (ha : At B s i w) (hi : i ≤ s.size) (_hs : s.size ≤ 1048576) (hn : Pl.isSt (bt s i) = false) :
    Calls Try.prog 48 #[.pointer (some ⟨B, 0, none⟩)] w fun e w' => e = .returned (.bool false) ∧ ∃ n, w' = w.drewN n := by
  obtain ⟨c0, c1, z1⟩ := ha
  by_cases hlt : i < s.size
  · have e1 : ((i : Int) == (s.size : Int)) = false := beq_eq_false_iff_ne.2 (by omega)
    have hst : Pl.isSt s[i].toNat = false := by rw [← bt_at s i hlt]; exact hn
    clear hn
    have l1 : (i : Int) < (s.size : Int) := by omega
    have hcall := fun W => containsSt' s[i].toNat W (UInt8.toNat_lt _)
    rw [hst] at hcall
    have HC := hide hcall
    clear hcall
    go_enter Try.func48, Try.ntmps48
    go_wp2
    go_quiet ((go_at_call 52; exact quiet_of _ _ HC.out))
    go_wp2
    go_ret
    exact ⟨rfl, _, rfl⟩
  · have e1 : ((i : Int) == (s.size : Int)) = true := beq_iff_eq.2 (by omega)
    clear hn
    go_enter Try.func48, Try.ntmps48
    go_wp2
    go_quiet (fail)
    go_wp2
    go_ret
    exact ⟨rfl, _, rfl⟩

def USaid (B : Nat) (w : World) (R : Int × Bool) (e : Ending) (w' : World) : Prop :=
  Same B w w' ∧ e = .returned (.tuple #[.int .i64 R.1, .bool R.2])

theorem u_close {B : Nat} {w w' : World} {R : Int × Bool} {v : Int} {ok : Bool} (h : (v, ok) = R) (hs : Same B w w') : USaid B w R (.returned (.tuple #[.int .i64 v, .bool ok])) w' := by
  subst h
  exact ⟨hs, rfl⟩

set_option maxRecDepth 100000 in
set_option maxHeartbeats 2000000 in
theorem units37 (B : Nat) (s : ByteArray) (i : Nat) (t0 : Int) (lo0 : Nat) (w : World) (ha : At B s i w) (h0 : 1 ≤ i) (hi : i ≤ s.size) (hs : s.size ≤ 1048576) (l1 : 1 ≤ lo0) (l4 : lo0 ≤ 4) (hnul : ∀ j, j < s.size → bt s j ≠ 0) :
    Calls Try.prog 37 #[.pointer (some ⟨B, 0, none⟩), .int .i64 t0, .string (us lo0)] w (USaid B w (Pl.gU stepU (bt s) s.size (s.size - i + 1) i t0 (lo0 : Int) (bt s (i - 1)))) := by
  generalize hR : Pl.gU stepU (bt s) s.size (s.size - i + 1) i t0 (lo0 : Int) (bt s (i - 1)) = R
  have HR := hide hR
  have HN := hide hnul
  have HA0 := hide ha
  obtain ⟨c0, c1, z1⟩ := ha
  clear hR hnul
  obtain ⟨q, rfl⟩ : ∃ q, i = q + 1 := ⟨i - 1, by omega⟩
  have hq : q < s.size := by omega
  have hq' : (q : Int) < (s.size : Int) := by omega
  have hbq : Hid (bt s q = s[q].toNat) := bt_at s q hq
  go_enter Try.func37, Try.ntmps37
  go_wp2
  go_quiet (fail)
  go_wp2
  go_loopw [1, 2, 8] (fun tt u la wr => ∃ (pos lo last f : Nat) (total : Int), pos ≤ s.size ∧ 1 ≤ lo ∧ lo ≤ 4 ∧ tt = .int .i64 total ∧ u = .string (us lo) ∧ la = .int .u8 (last : Int) ∧ (s.size - pos < f + 1 ∧ Pl.gU stepU (bt s) s.size (f + 1) pos total (lo : Int) last = R) ∧ At B s pos wr ∧ Same B w wr) (fun _ _ _ wr => s.size - (intOf ((wr.cell? ⟨B, 1, none⟩).getD .nilIface)).toNat)
  case atStart => exact ⟨q + 1, lo0, bt s q, s.size - (q + 1), t0, by omega, l1, l4, rfl, rfl, by rw [hbq.out], ⟨by omega, HR.out⟩, HA0.out.drewN _, (Same.refl _ _).drewN _⟩
  case round =>
    clear HR HA0 c0 c1 z1
    obtain ⟨pos, lo, last, f, total, hpos, lo1, lo4, rfl, rfl, rfl, ⟨hf, hR⟩, hat, hsame⟩ := hrel
    have HS := hide hsame
    have HA := hide hat
    obtain ⟨d0, d1, y1⟩ := hat
    clear hsame
    by_cases hlt : pos < s.size
    · have m1 : (pos : Int) < (s.size : Int) := by omega
      obtain ⟨p1, p2, _⟩ := Pl.skip_spec (bt s) s.size pos hpos
      obtain ⟨g, rfl⟩ : ∃ g, f = g + 1 := ⟨f - 1, by omega⟩
      have HR := hide hR
      clear hR
      go_wp2
      go_quiet (fail)
      go_upto_region 3 with fail
      go_cut [46] from 23 to 78 (fun c w1 => c = .bool (decide (Pl.isSt (bt s pos) = true ∧ Pl.skip (bt s) s.size pos = s.size)) ∧ At B s (Pl.skip (bt s) s.size pos) w1 ∧ Same B w w1)
      case first =>
        by_cases hst : Pl.isSt (bt s pos) = true
        · by_cases hend : Pl.skip (bt s) s.size pos = s.size
          · have HST := hide hst
            have HEND := hide hend
            clear hst hend
            go_region_with (go_at_call 48; refine (blanksT B s pos _ ⟨by exact d0, by exact d1, by exact y1⟩ hs hlt HST.out).mono ?_; rintro e w1 ⟨rfl, hs1, ⟨g0, g1, x1⟩⟩; rw [HEND.out] at g1)
            all_goals
              go_wp2_with fail
              go_meet
              refine ⟨?_, ?_, (HS.out.drewN _).trans hs1⟩
              · rw [decide_eq_true ⟨HST.out, HEND.out⟩]
              · rw [HEND.out]; exact ⟨g0, g1, x1⟩
          · have HST := hide hst
            have HEND := hide hend
            clear hst
            generalize hsk : Pl.skip (bt s) s.size pos = sk at *
            have HSK := hide hsk
            clear hsk
            have eS : ((sk : Int) == (s.size : Int)) = false := beq_eq_false_iff_ne.2 (by omega)
            clear hend
            go_region_with (go_at_call 48; refine (blanksT B s pos _ ⟨by exact d0, by exact d1, by exact y1⟩ hs hlt HST.out).mono ?_; rintro e w1 ⟨rfl, hs1, ⟨g0, g1, x1⟩⟩; rw [HSK.out] at g1)
            all_goals
              go_wp2_with fail
              go_meet
              refine ⟨?_, ⟨g0, g1, x1⟩, (HS.out.drewN _).trans hs1⟩
              rw [decide_eq_false (fun k => HEND.out k.2)]
        · have hst' : Pl.isSt (bt s pos) = false := by
            cases h : Pl.isSt (bt s pos)
            · rfl
            · exact absurd h hst
          have HST := hide hst'
          clear hst hst'
          have hsk : Pl.skip (bt s) s.size pos = pos := by unfold Pl.skip; rw [if_neg (fun k => by rw [HST.out] at k; cases k.2)]
          have HSK := hide hsk
          clear hsk
          go_quiet ((go_at_call 48; exact quiet_of2 _ _ _ (blanksQ B s pos _ ⟨by exact d0, by exact d1, by exact y1⟩ hpos hs HST.out)))
          go_wp2_with fail
          go_meet
          refine ⟨?_, ?_, ?_⟩
          · rw [decide_eq_false (fun k => by rw [HST.out] at k; cases k.1)]
          · rw [HSK.out]; first | exact HA.out.drewN _ | exact (HA.out.drewN _).drewN _
          · first | exact HS.out.drewN _ | exact (HS.out.drewN _).drewN _
      case rest =>
        obtain ⟨rfl, hat1, hsame1⟩ := hcut
        have HS1 := hide hsame1
        have HA1 := hide hat1
        clear hsame1 hat1
        by_cases hbl : Pl.isSt (bt s pos) = true ∧ Pl.skip (bt s) s.size pos = s.size
        · rw [decide_eq_true hbl]
          have hR2 : ((total, decide (last ≠ 115)) : Int × Bool) = R := by rw [← HR.out, Pl.gU, if_pos hlt, if_pos hbl]
          have HR2 := hide hR2
          clear hR2 hbl
          have hne : ((last : Int) != 115) = decide (last ≠ 115) := by
            by_cases h : last = 115
            · subst h; rfl
            · rw [decide_eq_true h, bne_iff_ne]; omega
          have HNE := hide hne
          clear hne
          go_wp2
          go_ret2
          exact u_close (by rw [HNE.out]; exact HR2.out) HS1.out
        · rw [decide_eq_false hbl]
          have hRb := HR.out
          rw [Pl.gU, if_pos hlt, if_neg hbl] at hRb
          clear hbl
          have HRb0 := hide hRb
          clear hRb
          go_wp2_with fail
          have hRb := HRb0.out
          clear HRb0
          have hsk2 : Pl.skip (bt s) s.size (Pl.skip (bt s) s.size pos) = Pl.skip (bt s) s.size pos := Pl.skip_skip (bt s) s.size pos (by omega)
          refine (number42 B s (Pl.skip (bt s) s.size pos) _ HA1.out (by omega) hs).mono ?_
          rintro e w3 ⟨hs3, rfl, ha3⟩
          rw [hsk2] at ha3 ⊢
          have hsp := Pl.sint_spec (bt s) s.size (Pl.skip (bt s) s.size pos) (by omega)
          generalize hx : Pl.sint (bt s) s.size (Pl.skip (bt s) s.size pos) = x at ha3 hsp hRb ⊢
          obtain ⟨n, en, ok⟩ := x
          clear hx hsk2
          simp only at ha3 hsp hRb ⊢
          have HS3 := hide (HS1.out.trans hs3)
          have HA3 := hide ha3
          obtain ⟨k1, k2, k3, k4⟩ := hsp
          have K4 := hide k4
          clear hs3 ha3 k3 k4
          cases ok
          · have hn0 := K4.out rfl
            subst hn0
            have HRx : Hid (((0 : Int), false) = R) := by show _ = R; rw [← hRb, if_pos rfl]
            clear hRb K4
            go_wp2
            go_ret2
            exact u_close HRx.out HS3.out
          · rw [if_neg (by simp)] at hRb
            have HRb := hide hRb
            clear hRb
            go_wp2_with fail
            refine (next43 B s en _ HA3.out (by omega) hs).mono ?_
            rintro e w4 ⟨hs4, ⟨e1, rfl, ha4⟩ | ⟨e1, rfl, ha4⟩⟩
            · have HS4 := hide (HS3.out.trans hs4)
              have HRx : Hid (((0 : Int), false) = R) := by show _ = R; rw [← HRb.out, if_pos e1]
              clear hs4 ha4 e1
              go_wp2_with fail
              refine (index49 lo 0 _ lo1 lo4 (by decide)).mono ?_
              rintro e w5 ⟨rfl, hw⟩
              subst hw
              go_wp2
              go_ret2
              exact u_close HRx.out HS4.out
            · have HS4 := hide (HS3.out.trans hs4)
              have HA4 := hide ha4
              have hc0 := HN.out en e1
              have hbl := bt_lt s en
              clear hs4 ha4
              have HRc := hide (HRb.out)
              generalize hc : bt s en = c at *
              have HCc := hide hc
              clear hc
              have ec0 : ((c : Int) == 0) = false := beq_eq_false_iff_ne.2 (by omega)
              go_wp2_with fail
              refine (index49 lo c _ lo1 lo4 hbl).mono ?_
              rintro e w5 ⟨rfl, hw⟩
              subst hw
              by_cases hr : Pl.rank c < (lo : Int)
              · have hix : ix lo c = -1 := by unfold ix; rw [if_pos hr]
                rw [hix]
                have HRd : Hid (((0 : Int), false) = R) := by
                  show _ = R
                  rw [← HRc.out, if_neg (by omega), if_pos hr]
                clear hix hr
                go_wp2
                go_ret2
                exact u_close HRd.out HS4.out
              · obtain ⟨r, hrr⟩ : ∃ r : Nat, Pl.rank c = (r : Int) := ⟨(Pl.rank c).toNat, by omega⟩
                have hr3 : r ≤ 3 := by rcases rank_cases c with k | ⟨_, k⟩ | ⟨_, k⟩ | ⟨_, k⟩ | ⟨_, k⟩ <;> omega
                have hix : ix lo c = ((r - lo : Nat) : Int) := by unfold ix; rw [if_neg hr, hrr]; omega
                rw [hix]
                have hcut := us_cut lo r lo1 (by omega) hr3
                have hsl : ∀ W, (Instr.slice 9 (.string (us lo)) (some (.int .i64 (((r - lo : Nat) : Int) + 1))) none none).run Try.prog W = .ok (.string (us (r + 1))) W := fun W => by
                  rw [run_slice_string_l W 9 (us lo) Try.underlying9 .i64 (((r - lo : Nat) : Int) + 1) (by omega) (by omega), show (((r - lo : Nat) : Int) + 1).toNat = r - lo + 1 by omega, hcut.1]
                have hsec := seconds50 c
                have hrank1 : 1 ≤ Pl.rank c := by omega
                have HRd : Hid (Pl.gU stepU (bt s) s.size (g + 1) (en + 1) (stepU total n (Pl.scale (Pl.rank c))) ((r + 1 : Nat) : Int) c = R) := by
                  show _ = R
                  rw [← HRc.out, if_neg (by omega), if_neg hr, hrr]
                  rfl
                have HF := hide hf
                generalize hu : r - lo = u at *
                have hub : u ≤ 3 := by omega
                clear hix hr hrr hcut hc0 hu hf
                have HSec := hide hsec
                clear hsec
                generalize Pl.scale (Pl.rank c) = sc at *
                go_wp2_with fail
                refine (HSec.out _ hrank1).mono ?_
                rintro e w5 ⟨rfl, hw⟩
                subst hw
                go_wp2
                go_roundw
                case rel =>
                  refine ⟨en + 1, r + 1, c, g, stepU total n sc, by omega, by omega, by omega, rfl, rfl, rfl, ⟨?_, HRd.out⟩, HA4.out, HS4.out⟩
                  have := HF.out
                  omega
                case measure =>
                  rw [HA4.out.c1, d1]
                  simp [intOf]
                  omega
    · have m1 : ¬ ((pos : Int) < (s.size : Int)) := by omega
      have hR2 : ((total, true) : Int × Bool) = R := by rw [← hR, Pl.gU, if_neg hlt]
      have HR := hide hR2
      clear hR hR2
      go_wp2
      go_quiet (fail)
      go_wp2
      go_ret2
      exact u_close HR.out (HS.out.drewN _)
end Go.Proofs.Qxb6600554a

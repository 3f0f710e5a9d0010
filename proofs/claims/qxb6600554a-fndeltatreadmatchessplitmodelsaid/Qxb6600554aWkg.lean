import Derived.Test.Qxb6600554aWkd
import Derived.Deep.AppendLies
namespace Go.Proofs.Qxb6600554a
open Go.RowKit

theorem Try.info2 : (Try.prog.info? 2).map (fun i => (i.zero, i.size, i.bytes)) = some (some (.int .i64 0), 1, 8) := by kernel_rfl

theorem own_same {B : Nat} {w w' : World} {v : Value} {n : Nat} {xs : List Value} (h : w.ownsRow (B + 1) 2 1 v n xs) (hs : Same B w w') : w'.ownsRow (B + 1) 2 1 v n xs := by
  refine ⟨h.1, ?_⟩
  rcases h.2 with hn | ⟨g, cap, cur, rfl, hb, hgg, rest⟩
  · exact .inl hn
  · exact .inr ⟨g, cap, cur, rfl, hb, by rw [hs.block g (by omega)]; exact hgg, rest⟩

/-- The numbers as values. -/
def iv (l : List Int) : List Value := l.map (Value.int .i64)

/-- What clock hands back. -/
def ClSaid (B : Nat) (w : World) (R : Option (List Int)) (e : Ending) (w' : World) : Prop :=
  Below B w w' ∧ ((R = none ∧ e = .returned (.tuple #[.slice none 0 0, .bool false])) ∨ ∃ l v, R = some l ∧ e = .returned (.tuple #[v, .bool true]) ∧ w'.ownsRow (B + 1) 2 1 v l.length (iv l))

theorem cl_none {B : Nat} {w w' : World} {R : Option (List Int)} (h : none = R) (hb : Below B w w') : ClSaid B w R (.returned (.tuple #[.slice none 0 0, .bool false])) w' := ⟨hb, Or.inl ⟨h.symm, rfl⟩⟩
theorem cl_some {B : Nat} {w w' : World} {R : Option (List Int)} {l : List Int} {v : Value} (h : some l = R) (ho : w'.ownsRow (B + 1) 2 1 v l.length (iv l)) (hb : Below B w w') : ClSaid B w R (.returned (.tuple #[v, .bool true])) w' := ⟨hb, Or.inr ⟨l, v, h.symm, rfl, ho⟩⟩

theorem at_grown {B : Nat} {s : ByteArray} {i : Nat} {w w' : World} {row : Option Nat} (h : At B s i w) (hg : w.grownBy w' row) (hr : ∀ k, row = some k → B + 1 ≤ k) : At B s i w' :=
  have hne : some B ≠ row := fun e => by have := hr B e.symm; omega
  ⟨hg.cell h.c0 hne, hg.cell h.c1 hne, by
    have hlt := World.block_lt_of_cell? w _ h.c1
    rw [World.frozen?_of_block (hg.block B hlt hne)]
    exact h.z1⟩

theorem at_alloc {B : Nat} {s : ByteArray} {i : Nat} {w : World} (h : At B s i w) (o : Obj) : At B s i (w.alloc o) :=
  at_grown (row := none) h (World.grownBy_alloc w o none) (fun k hk => by cases hk)
theorem own_snoc {B : Nat} {w : World} {v : Value} {l : List Int} {x : Int} (h : w.ownsRow (B + 1) 2 1 v (l.length + 1) (iv l ++ [.int .i64 x])) : w.ownsRow (B + 1) 2 1 v (l ++ [x]).length (iv (l ++ [x])) := by
  have e : (l ++ [x]).length = l.length + 1 := by simp
  rw [e]
  simpa [iv] using h

set_option maxRecDepth 100000 in
set_option maxHeartbeats 2000000 in
theorem clock44 (B : Nat) (s : ByteArray) (i : Nat) (w : World) (ha : At B s i w) (hi : i ≤ s.size) (hs : s.size ≤ 1048576) (hB : B < w.heap.size) (hnul : ∀ j, j < s.size → bt s j ≠ 0) :
    Calls Try.prog 44 #[.pointer (some ⟨B, 0, none⟩)] w (ClSaid B w (Pl.gC (bt s) s.size (s.size - i + 1) i [])) := by
  obtain ⟨i0, hi0, hz0, hz1, hz2⟩ := info_parts Try.info2
  generalize hR : Pl.gC (bt s) s.size (s.size - i + 1) i [] = R
  have HR := hide hR
  have HN := hide hnul
  have HA0 := hide ha
  clear hR hnul ha
  go_enter Try.func44, Try.ntmps44
  go_wp2
  go_loopw [4] (fun v wr => ∃ (pos f : Nat) (l : List Int), pos ≤ s.size ∧ l.length ≤ pos ∧ wr.ownsRow (B + 1) 2 1 v l.length (iv l) ∧ (s.size - pos < f + 1 ∧ Pl.gC (bt s) s.size (f + 1) pos l = R) ∧ At B s pos wr ∧ Below B w wr) (fun _ wr => s.size - (intOf ((wr.cell? ⟨B, 1, none⟩).getD .nilIface)).toNat)
  case atStart => exact ⟨i, s.size - i, [], hi, Nat.zero_le _, World.ownsRow_nil _ _ _ _, ⟨by omega, HR.out⟩, HA0.out, Below.refl _ _⟩
  case round =>
    clear HR HA0
    obtain ⟨pos, f, l, hpos, hl, hown, ⟨hf, hR⟩, hat, hbel⟩ := hrel
    have HA := hide hat
    have HB := hide hbel
    have HO := hide hown
    have HR := hide hR
    have d1 := hat.c1
    clear hat hbel hown hR
    go_wp2_with fail
    refine (digits51 B s pos _ HA.out hpos hs).mono ?_
    rintro e w1 ⟨hs1, rfl, ha1⟩
    have hsp := Pl.stop_spec Pl.isDig (bt s) s.size pos hpos
    have hsat := Pl.sat_eq (bt s) pos (Pl.stop Pl.isDig (bt s) s.size pos - pos)
    have hnum := Pl.num_lt (bt s) pos (Pl.stop Pl.isDig (bt s) s.size pos - pos) (fun j a c => hsp.2.2.1 j a (by omega))
    have hRx := HR.out
    rw [Pl.gC] at hRx
    generalize Pl.stop Pl.isDig (bt s) s.size pos = en at *
    generalize hk : en - pos = k at *
    generalize Pl.sat (bt s) pos k = S at *
    generalize hN0 : Pl.num (bt s) pos k = N at *
    obtain ⟨q1, q2, _, _⟩ := hsp
    by_cases hk12 : k ≠ 1 ∧ k ≠ 2
    · have HRx : Hid (none = R) := by show _ = R; rw [← hRx, if_pos hk12]
      obtain ⟨ka, kb⟩ := hk12
      have e1 : ((k : Int) != 1) = true := by rw [bne_iff_ne]; omega
      have e2 : ((k : Int) != 2) = true := by rw [bne_iff_ne]; omega
      clear hRx ka kb hnum hsat hN0 hk
      have HB1 := hide (HB.out.trans hs1.below)
      go_wp2
      go_ret2
      exact cl_none HRx.out HB1.out
    · rw [if_neg hk12] at hRx
      have hSN : S = N := by
        have : N < 10 ^ 2 := Nat.lt_of_lt_of_le hnum (Nat.pow_le_pow_right (by decide) (by omega))
        omega
      subst hSN
      have HRy := hide hRx
      have HA1 := hide ha1
      have HB1 := hide (HB.out.trans hs1.below)
      have HO1 := hide (own_same HO.out hs1)
      have hBw : B + 1 ≤ w1.heap.size := by rw [hs1.size]; have := HB.out.size; omega
      have hkb : k = 1 ∨ k = 2 := by omega
      have HK := hide hk
      clear hRx ha1 hs1 hnum hsat hN0 hk12 hk
      rcases hkb with rfl | rfl
      all_goals
        go_wp2_with (first | (at_builtin; refine wpList_append_lies _ rfl _ _ 66 rfl (B + 1) 2 i0 (.int .i64 0) 1 8 Try.underlying66 hi0 hz0 hz1 hz2 rfl (by decide) _ _ _ rfl (HO1.out.alloc _) ⟨w1.heap.size, 0, none⟩ 1 1 [.int .i64 (S : Int)] rfl rfl ?c1 ?c2 (by decide) ?c3 ?c4 ?c5 _ rfl ?_))
        case c1 =>
          intro j u hj
          match j, hj with
          | 0, hj => simp at hj; subst hj; simp [Addr.add]
        case c2 => intro u hu; simp at hu; subst hu; rfl
        case c3 => unfold maxLen; omega
        case c4 => omega
        case c5 => simp; omega
        intro g cap w2 hown' hgrow _ _
        have hrow : ∀ k, Value.ownBlock u4 = some k → B + 1 ≤ k := fun k hk => (HO1.out.lt k hk).1
        have HA2 := hide (at_grown (at_alloc HA1.out _) hgrow hrow)
        have HB2 := hide ((HB1.out.alloc (by omega) (.cells #[.int .i64 (S : Int)] 2)).grown hgrow (by simp; omega) (fun k hk => by have := hrow k hk; omega))
        have HO2 := hide (own_snoc hown')
        clear hown' hgrow hrow HA1 HB1 HO1
        go_wp2_with fail
        refine (next43 B s en _ HA2.out q2 hs).mono ?_
        rintro e w3 ⟨hs3, ⟨e1, rfl, ha3⟩ | ⟨e1, rfl, ha3⟩⟩
        · have HRx : Hid (some (l ++ [(S : Int)]) = R) := by show _ = R; rw [← HRy.out, if_pos e1]
          have HB3 := hide (HB2.out.trans hs3.below)
          have HO3 := hide (own_same HO2.out hs3)
          clear hs3 ha3
          go_wp2
          go_ret2
          exact cl_some HRx.out HO3.out HB3.out
        · have HB3 := hide (HB2.out.trans hs3.below)
          have HO3 := hide (own_same HO2.out hs3)
          have HA3 := hide ha3
          have hc0 := HN.out en e1
          have hRz := HRy.out
          rw [if_neg (by omega)] at hRz
          clear hs3 ha3
          generalize bt s en = c at *
          have ec0 : ((c : Int) == 0) = false := beq_eq_false_iff_ne.2 (by omega)
          by_cases hc : c = 58
          · rw [if_pos hc] at hRz
            have ec : ((c : Int) == 58) = true := beq_iff_eq.2 (by omega)
            have HRz := hide hRz
            have HK2 := hide (HK.out)
            clear hRz hc hc0
            go_wp2
            go_roundw
            case rel =>
              have hk := HK2.out
              obtain ⟨f', rfl⟩ : ∃ f', f = f' + 1 := ⟨f - 1, by omega⟩
              exact ⟨en + 1, f', l ++ [(S : Int)], by omega, by simp; omega, HO3.out, ⟨by omega, HRz.out⟩, HA3.out, HB3.out⟩
            case measure =>
              have hk := HK2.out
              rw [HA3.out.c1, d1]
              simp [intOf]
              omega
          · have ec : ((c : Int) == 58) = false := beq_eq_false_iff_ne.2 (by omega)
            have HRx : Hid (none = R) := by show _ = R; rw [← hRz, if_neg hc]
            clear hRz hc hc0
            go_wp2
            go_ret2
            exact cl_none HRx.out HB3.out
end Go.Proofs.Qxb6600554a

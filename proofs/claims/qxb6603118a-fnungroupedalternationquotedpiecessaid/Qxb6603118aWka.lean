import Derived.Test.Qxb6603118aRows
import Derived.Test.Qxb6603118aPlain
import Derived.Test.Qxb6603118aShelf
import Derived.WalkKit
import Derived.WalkSpells
import Derived.WalkLawsBesides
import Derived.RegionTactic
import Derived.OwnWalk
import Derived.Laws.OwnMore
import Derived.Laws.IdiomStrings
import Derived.Lib.IndexBytes
namespace Go.Proofs.Qxb6603118a
open Go.RowKit

theorem hide {p : Prop} (h : p) : Hid p := h

set_option maxRecDepth 100000 in
set_option maxHeartbeats 1000000 in
theorem isMeta24 (c : Nat) (w : World) : Calls Try.prog 24 #[.int .u8 (c : Int)] w fun e w' => e = .returned (.bool (Pl.isMeta c)) ∧ w = w' := by
  by_cases h : c = 92 ∨ c = 46 ∨ c = 43 ∨ c = 42 ∨ c = 63 ∨ c = 40 ∨ c = 41 ∨ c = 124 ∨ c = 91 ∨ c = 93 ∨ c = 123 ∨ c = 125 ∨ c = 94 ∨ c = 36
  · rcases h with rfl | rfl | rfl | rfl | rfl | rfl | rfl | rfl | rfl | rfl | rfl | rfl | rfl | rfl
    all_goals
      go_enter Try.func24, Try.ntmps24
      go_wp2
      go_ret
      exact ⟨rfl, rfl⟩
  have hF : Hid (Pl.isMeta c = false) := by
    show _ = _
    simp only [Pl.isMeta, Bool.or_eq_false_iff, beq_eq_false_iff_ne]
    omega
  have e1 : ((c : Int) == 92) = false := beq_eq_false_iff_ne.2 (by omega)
  have e2 : ((c : Int) == 46) = false := beq_eq_false_iff_ne.2 (by omega)
  have e3 : ((c : Int) == 43) = false := beq_eq_false_iff_ne.2 (by omega)
  have e4 : ((c : Int) == 42) = false := beq_eq_false_iff_ne.2 (by omega)
  have e5 : ((c : Int) == 63) = false := beq_eq_false_iff_ne.2 (by omega)
  have e6 : ((c : Int) == 40) = false := beq_eq_false_iff_ne.2 (by omega)
  have e7 : ((c : Int) == 41) = false := beq_eq_false_iff_ne.2 (by omega)
  have e8 : ((c : Int) == 124) = false := beq_eq_false_iff_ne.2 (by omega)
  have e9 : ((c : Int) == 91) = false := beq_eq_false_iff_ne.2 (by omega)
  have e10 : ((c : Int) == 93) = false := beq_eq_false_iff_ne.2 (by omega)
  have e11 : ((c : Int) == 123) = false := beq_eq_false_iff_ne.2 (by omega)
  have e12 : ((c : Int) == 125) = false := beq_eq_false_iff_ne.2 (by omega)
  have e13 : ((c : Int) == 94) = false := beq_eq_false_iff_ne.2 (by omega)
  have e14 : ((c : Int) == 36) = false := beq_eq_false_iff_ne.2 (by omega)
  clear h
  go_enter Try.func24, Try.ntmps24
  go_wp2
  go_ret
  exact ⟨by rw [hF.out]; rfl, rfl⟩

theorem Try.info5 : (Try.prog.info? 5).map (fun i => (i.zero, i.size, i.bytes)) = some (some (.int .u8 0), 1, 1) := by kernel_rfl

def bv (l : List UInt8) : List Value := l.map fun b => Value.int .u8 (b.toNat : Int)
theorem bv_len (l : List UInt8) : (bv l).length = l.length := by simp [bv]
theorem bv_append (a b : List UInt8) : bv (a ++ b) = bv a ++ bv b := by simp [bv]

/-- The row so far. -/
def Row (B C : Nat) (w : World) (l : List UInt8) : Prop := w.ownsRow B 5 1 (.slice (some ⟨B, 0, none⟩) l.length C) l.length (bv l)

theorem row_snoc {B C n : Nat} {w : World} {l : List UInt8} {c : UInt8} {x : Int} (hx : x = (c.toNat : Int)) (hn : n = l.length + 1) (h : w.ownsRow B 5 1 (.slice (some ⟨B, 0, none⟩) n C) n (bv l ++ [.int .u8 x])) : Row B C w (l ++ [c]) := by
  subst hx hn
  unfold Row
  rw [bv_append, show (l ++ [c]).length = l.length + 1 by simp]
  exact h

theorem row_at {B C : Nat} {w : World} {l : List UInt8} (h : Row B C w l) (j : Nat) (hj : j < l.length) : w.cell? ((⟨B, 0, none⟩ : Addr).add j) = some (.int .u8 (l[j].toNat : Int)) := by
  refine h.cells (g := B) rfl j _ ?_
  unfold bv
  rw [List.getElem?_map, List.getElem?_eq_getElem hj]
  rfl

set_option maxRecDepth 100000 in
set_option maxHeartbeats 2000000 in
theorem quote11 (s : ByteArray) (w : World) (hs : s.size ≤ 262144) :
    Calls Try.prog 11 #[.string s] w fun e w' => e = .returned (.string ⟨(Pl.qz s.data.toList).toArray⟩) ∧ Below w.heap.size w w' := by
  obtain ⟨i0, hi0, hz0, hz1, hz2⟩ := info_parts Try.info5
  go_enter Try.func11, Try.ntmps11
  go_wp2_with (at_make; refine wpList_make_own _ rfl _ _ 28 rfl w.heap.size 5 i0 (.int .u8 0) 1 Try.underlying28 hi0 hz0 hz1 _ _ _ (2 * s.size) rfl rfl (by first | rfl | omega | go_num) (by rw [hz2]; omega) (by unfold maxLen; omega) (Nat.le_refl _) ?_; intro w0 hown0 hgrow0)
  have HB0 := hide (Below.grown (Below.refl w.heap.size w) hgrow0 (Nat.le_refl _) (fun k hk => by cases hk))
  have HO0 : Hid (Row w.heap.size (2 * s.size) w0 []) := hown0
  clear hown0 hgrow0
  go_loopw [3, 4] (fun v x wr => ∃ i : Nat, i ≤ s.size ∧ x = .int .i64 (i : Int) ∧ v = .slice (some ⟨w.heap.size, 0, none⟩) (Pl.qz (s.data.toList.take i)).length (2 * s.size) ∧ Row w.heap.size (2 * s.size) wr (Pl.qz (s.data.toList.take i)) ∧ Below w.heap.size w wr) (fun _ x _ => s.size - (intOf x).toNat)
  case atStart => exact ⟨0, Nat.zero_le _, rfl, rfl, HO0.out, HB0.out⟩
  case round =>
    obtain ⟨i, hi, rfl, rfl, hown, hbel⟩ := hrel
    have hlen := Pl.qz_len (s.data.toList.take i)
    have htk : (s.data.toList.take i).length = i := by
      rw [List.length_take]
      have : s.data.toList.length = s.size := rfl
      omega
    rw [htk] at hlen
    by_cases hil : i < s.size
    · have l1 : (i : Int) < (s.size : Int) := by omega
      have HNX : Hid (Pl.qz (s.data.toList.take (i + 1)) = Pl.qz (s.data.toList.take i) ++ Pl.tok s[i]) := by
        show _ = _
        have hb : i < s.data.toList.length := hil
        rw [List.take_add_one, List.getElem?_eq_getElem hb]
        show Pl.qz (_ ++ [_]) = _
        rw [Pl.qz_snoc]
        congr 1
      have hwr := hbel.size
      have hc := fun W => isMeta24 s[i].toNat W
      generalize Pl.qz (s.data.toList.take i) = l at *
      have HO := hide hown
      have HB := hide hbel
      clear hown hbel htk
      cases hm : Pl.isMeta s[i].toNat
      · have HT : Hid (Pl.tok s[i] = [s[i]]) := by show _ = _; unfold Pl.tok; rw [if_neg (by rw [hm]; decide)]
        rw [hm] at hc
        have HC := hide hc
        clear hc hm
        go_wp2_with (first | (go_at_call 24; refine (HC.out _).mono ?_; rintro e w1 ⟨rfl, hw⟩; subst hw) | (at_builtin; refine wpList_append_fits _ rfl _ _ 28 rfl w.heap.size 5 i0 1 Try.underlying28 hi0 hz1 w.heap.size _ (2 * s.size) _ rfl (HO.out.alloc _) ⟨wr.heap.size, 0, none⟩ 1 1 [.int .u8 (s[i].toNat : Int)] rfl rfl ?c1 ?c2 ?c3 ?_))
        case c1 =>
          intro j u hj
          match j, hj with
          | 0, hj => simp at hj; subst hj; simp [Addr.add]
        case c2 => intro u hu; simp at hu; subst hu; rfl
        case c3 => omega
        intro w2 hown2 hgrow2
        have HO2 := hide (row_snoc (c := s[i]) rfl rfl hown2)
        have HB2 := hide ((HB.out.alloc (by omega) (.cells #[.int .u8 (s[i].toNat : Int)] 5)).grown hgrow2 (by simp; omega) (fun k hk => by cases hk; exact Nat.le_refl _))
        clear hown2 hgrow2
        go_wp2
        go_roundw
        case rel => exact ⟨i + 1, by omega, by go_num, by rw [HNX.out, HT.out]; simp, by rw [HNX.out, HT.out]; exact HO2.out, HB2.out⟩
        case measure => simp [intOf]; omega
      · have HT : Hid (Pl.tok s[i] = [92, s[i]]) := by show _ = _; unfold Pl.tok; rw [if_pos hm]
        rw [hm] at hc
        have HC := hide hc
        clear hc hm
        go_wp2_with (first | (go_at_call 24; refine (HC.out _).mono ?_; rintro e w1 ⟨rfl, hw⟩; subst hw) | (at_builtin; refine wpList_append_fits _ rfl _ _ 28 rfl w.heap.size 5 i0 1 Try.underlying28 hi0 hz1 w.heap.size _ (2 * s.size) _ rfl (HO.out.alloc _) ⟨wr.heap.size, 0, none⟩ 1 1 [.int .u8 92] rfl rfl ?c1a ?c2a ?c3a ?_))
        case c1a =>
          intro j u hj
          match j, hj with
          | 0, hj => simp at hj; subst hj; simp [Addr.add]
        case c2a => intro u hu; simp at hu; subst hu; rfl
        case c3a => omega
        intro w2 hown2 hgrow2
        have HO2 := hide (row_snoc (c := 92) rfl rfl hown2)
        have HB2 := hide ((HB.out.alloc (by omega) (.cells #[.int .u8 92] 5)).grown hgrow2 (by simp; omega) (fun k hk => by cases hk; exact Nat.le_refl _))
        have hl2 : (l ++ [(92 : UInt8)]).length = l.length + 1 := by simp
        have HNX2 : Hid (Pl.qz (s.data.toList.take (i + 1)) = (l ++ [92]) ++ [s[i]]) := by show _ = _; rw [HNX.out, HT.out]; simp
        have hw2 := HB2.out.size
        clear hown2 hgrow2 HO
        rw [← hl2]
        generalize l ++ [(92 : UInt8)] = l2 at *
        go_wp2_with ((at_builtin; refine wpList_append_fits _ rfl _ _ 28 rfl w.heap.size 5 i0 1 Try.underlying28 hi0 hz1 w.heap.size _ (2 * s.size) _ rfl (HO2.out.alloc _) ⟨w2.heap.size, 0, none⟩ 1 1 [.int .u8 (s[i].toNat : Int)] rfl rfl ?c1b ?c2b ?c3b ?_))
        case c1b =>
          intro j u hj
          match j, hj with
          | 0, hj => simp at hj; subst hj; simp [Addr.add]
        case c2b => intro u hu; simp at hu; subst hu; rfl
        case c3b => omega
        intro w3 hown3 hgrow3
        have HO3 := hide (row_snoc (l := l2) (c := s[i]) rfl (by omega) hown3)
        have HB3 := hide ((HB2.out.alloc (by omega) (.cells #[.int .u8 (s[i].toNat : Int)] 5)).grown hgrow3 (by simp; omega) (fun k hk => by cases hk; exact Nat.le_refl _))
        clear hown3 hgrow3
        go_wp2
        go_roundw
        case rel => exact ⟨i + 1, by omega, by go_num, by rw [HNX2.out]; simp [hl2], by rw [HNX2.out]; exact HO3.out, HB3.out⟩
        case measure => simp [intOf]; omega
    · have l1 : ¬ ((i : Int) < (s.size : Int)) := by omega
      have ei : i = s.size := by omega
      have HL : Hid (Pl.qz (s.data.toList.take i) = Pl.qz s.data.toList) := by
        show _ = _
        rw [ei]
        congr 1
        exact List.take_length
      generalize Pl.qz (s.data.toList.take i) = l at *
      have hcv := run_convert_bytes_back wr 28 9 5 ⟨w.heap.size, 0, none⟩ (2 * s.size) l Try.underlying28 Try.underlying5 Try.underlying9 (fun j hj => row_at hown j hj)
      have HB := hide hbel
      clear hown hbel ei htk hlen
      go_wp2
      go_ret
      exact ⟨by rw [HL.out]; rfl, HB.out⟩
end Go.Proofs.Qxb6603118a

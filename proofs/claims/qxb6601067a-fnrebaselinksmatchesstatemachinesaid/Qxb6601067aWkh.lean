import Derived.Test.Qxb6601067aWkg
namespace Go.Proofs.Qxb6601067a
open Go.RowKit

/-- The builder at block B holds lo. -/
structure Bd (B : Nat) (w wr : World) (lo : List UInt8) : Prop where
  i : Lib.IsBuilder 34 5 B B (Lib.byteCells lo) wr
  b : Below B w wr
  z : B ≤ wr.heap.size

theorem ba_still {B b : Nat} {p : Value} {bs : List Value} {wr w1 : World} (h : Lib.BuilderAt 34 5 B b p bs wr) (hb : Below wr.heap.size wr w1) : Lib.BuilderAt 34 5 B b p bs w1 := by
  obtain ⟨h1, v, h2, h3, h4⟩ := h
  have hlt : b < wr.heap.size := (Array.getElem?_eq_some_iff.1 h2).1
  have hg : wr.grownBy w1 none := ⟨hb.os, hb.tape, hb.output, hb.size, fun k hk _ => hb.block k hk⟩
  refine ⟨h1, v, by rw [hb.block b hlt]; exact h2, World.ownsRow.kept h3 hg ?_, h4⟩
  cases v.ownBlock with
  | none => exact Or.inl rfl
  | some k => right; intro e; cases e

theorem Bd.still {B : Nat} {w wr w1 : World} {lo : List UInt8} (h : Bd B w wr lo) (hb : Below wr.heap.size wr w1) : Bd B w w1 lo := by
  refine ⟨?_, h.b.trans (hb.mono h.z), Nat.le_trans h.z hb.size⟩
  rcases h.i with k | k
  · exact Or.inl (ba_still k hb)
  · exact Or.inr (ba_still k hb)

theorem bc_append (a b : List UInt8) : Lib.byteCells (a ++ b) = Lib.byteCells a ++ Lib.byteCells b := by simp [Lib.byteCells]
theorem bc_len (a : List UInt8) : (Lib.byteCells a).length = a.length := by simp [Lib.byteCells]

theorem ws26 {B : Nat} {w wr : World} {lo : List UInt8} (s : ByteArray) (h : Bd B w wr lo) (hl : lo.length + s.size ≤ 100000000000) :
    Calls Try.prog 26 #[.pointer (some ⟨B, 0, none⟩), .string s] wr fun e w' => e = .returned (.tuple #[.int .i64 s.size, .nilIface]) ∧ Bd B w w' (lo ++ s.data.toList) := by
  refine (Try.Builder_WriteString B B _ s wr h.i (by rw [bc_len]; omega) h.z).mono ?_
  rintro e w' ⟨he, hb, hbel⟩
  refine ⟨he, ⟨Or.inr ?_, h.b.trans hbel, Nat.le_trans h.z hbel.size⟩⟩
  rw [bc_append]
  exact hb
theorem wb28 {B : Nat} {w wr : World} {lo : List UInt8} (c : UInt8) (x : Int) (hx : x = (c.toNat : Int)) (h : Bd B w wr lo) (hl : lo.length ≤ 100000000000) :
    Calls Try.prog 28 #[.pointer (some ⟨B, 0, none⟩), .int .u8 x] wr fun e w' => e = .returned .nilIface ∧ Bd B w w' (lo ++ [c]) := by
  refine (Try.Builder_WriteByte B B _ x wr h.i (by rw [bc_len]; omega) h.z).mono ?_
  rintro e w' ⟨he, hb, hbel⟩
  refine ⟨he, ⟨Or.inr ?_, h.b.trans hbel, Nat.le_trans h.z hbel.size⟩⟩
  rw [bc_append]
  subst hx
  exact hb
theorem st29 {B : Nat} {w wr : World} {lo : List UInt8} (h : Bd B w wr lo) :
    Calls Try.prog 29 #[.pointer (some ⟨B, 0, none⟩)] wr fun e w' => e = .returned (.string (tx lo)) ∧ Below B w w' := by
  refine (Try.Builder_String_any B B lo wr h.i h.z).mono ?_
  rintro e w' ⟨he, hbel⟩
  exact ⟨he, h.b.trans hbel⟩

def szOf : Value → Nat
  | .string s => s.size
  | _ => 0

theorem head_part (v : ByteArray) (pre : List UInt8) (c : UInt8) (rest : List UInt8) (h : v.data.toList = pre ++ c :: rest) :
    ∃ hlt : pre.length < v.size, v[pre.length] = c ∧ (v.extract 0 (pre.length + 1)).data.toList = pre ++ [c] ∧ (v.extract (pre.length + 1) v.size).data.toList = rest := by
  have hn : v.data.toList.length = v.size := rfl
  have hlt : pre.length < v.size := by rw [← hn, h]; simp
  refine ⟨hlt, ?_, ?_, ?_⟩
  · have := at_list v pre.length hlt
    rw [h] at this
    simpa using this.symm
  · rw [Lib.extract_data, h, show pre ++ c :: rest = (pre ++ [c]) ++ rest by simp]
    simp only [List.drop_zero, Nat.sub_zero]
    rw [show pre.length + 1 = (pre ++ [c]).length by simp, List.take_left]
  · rw [Lib.extract_to_end, h]
    simp [List.drop_append]

theorem cut_part (v : ByteArray) (n : Nat) : (v.extract 0 n).data.toList = v.data.toList.take n := by
  rw [Lib.extract_data]; simp
theorem rest_part (v : ByteArray) (n : Nat) : (v.extract n v.size).data.toList = v.data.toList.drop n := Lib.extract_to_end v n

theorem qe_hit : ∀ n l, l.length ≤ n → Pl.qe l < l.length → l[Pl.qe l]? = some 34
  | _, [], _, h => by simp at h
  | n + 1, [c], _, h => by
    by_cases h34 : c = 34
    · subst h34; simp [Pl.qe]
    · by_cases h92 : c = 92
      · subst h92; simp [Pl.qe] at h
      · simp [Pl.qe, h34, h92] at h
  | n + 1, c :: d :: l, hn, h => by
    rw [qe_cons] at h ⊢
    by_cases h34 : c = 34
    · subst h34; simp
    · by_cases h92 : c = 92
      · rw [if_neg h34, if_pos h92] at h ⊢
        dsimp only at h ⊢
        have := qe_hit n l (by simp at hn; omega) (by simp at h; omega)
        rw [show 2 + Pl.qe l = Pl.qe l + 1 + 1 by omega]
        simpa using this
      · rw [if_neg h34, if_neg h92] at h ⊢
        have := qe_hit n (d :: l) (by simp at hn ⊢; omega) (by simp at h ⊢; omega)
        rw [show 1 + Pl.qe (d :: l) = Pl.qe (d :: l) + 1 by omega]
        simpa using this

set_option maxRecDepth 100000 in
set_option maxHeartbeats 8000000 in
theorem links20 (v0 f t : ByteArray) (w : World) (hv : v0.size ≤ 65536) (ht : t.size ≤ 65536) :
    Calls Try.prog 20 #[.string v0, .string f, .string t] w fun e w' => e = .returned (.string (tx (Pl.mm f.data.toList t.data.toList 0 [] v0.data.toList))) ∧ Below w.heap.size w w' := by
  have hRl : (Pl.mm f.data.toList t.data.toList 0 [] v0.data.toList).length ≤ 5000000000 := by
    have h := Pl.mm_len f.data.toList t.data.toList v0.data.toList 0 []
    have e1 : v0.data.toList.length = v0.size := rfl
    have e2 : t.data.toList.length = t.size := rfl
    rw [e1, e2] at h
    have : v0.size * (t.size + 1) ≤ 65536 * 65537 := Nat.mul_le_mul hv (by omega)
    simp at h
    omega
  generalize hR : Pl.mm f.data.toList t.data.toList 0 [] v0.data.toList = R at *
  have HR := hide hR
  clear hR
  have HB0 : Hid (Bd w.heap.size w (w.alloc (.cells #[.pointer none, .slice none 0 0] 34)) []) := by
    refine ⟨Lib.fresh_isBuilder 34 5 w, (Below.refl _ _).alloc (Nat.le_refl _) _, by simp⟩
  go_enter Try.func20, Try.ntmps20
  go_wp2
  go_loopw [0] (fun x wr => ∃ (vs : ByteArray) (lo : List UInt8), x = .string vs ∧ vs.size ≤ 65536 ∧ Bd w.heap.size w wr lo ∧ lo ++ Pl.mm f.data.toList t.data.toList 0 [] vs.data.toList = R) (fun x _ => szOf x)
  case atStart => exact ⟨v0, [], rfl, hv, HB0.out, HR.out⟩
  case round =>
    obtain ⟨vs, lo, rfl, hvs, hbd, hmm⟩ := hrel
    have hlo := out_le hmm
    have HB := hide hbd
    have HM := hide hmm
    clear hbd hmm HR HB0
    go_wp2_with fail
    refine (indexAny25 vs _ hvs).mono ?_
    rintro e w1 ⟨hb1, hcase⟩
    have HB1 := hide (HB.out.still hb1)
    clear hb1 HB
    rcases hcase with ⟨hno, rfl⟩ | ⟨pre, c, rest, hsp, hpre, hc, rfl⟩
    · have HR : Hid (lo ++ vs.data.toList = R) := by show _ = _; rw [← HM.out, Pl.mm0_plain _ _ _ hno]
      clear hno HM
      go_wp2_with fail
      refine (ws26 vs HB1.out (by omega)).mono ?_
      rintro e w2 ⟨rfl, hb2⟩
      rw [HR.out] at hb2
      have HB2 := hide hb2
      clear hb2
      go_wp2_with fail
      refine (st29 HB2.out).mono ?_
      rintro e w3 ⟨rfl, hb3⟩
      have HB3 := hide hb3
      clear hb3
      go_wp2
      go_ret
      exact ⟨rfl, HB3.out⟩
    · obtain ⟨hlt, hat, hhd, hrs⟩ := head_part vs pre c rest hsp
      have l1 : (pre.length : Int) < (vs.size : Int) := by omega
      have l2 : (pre.length : Int) + 1 ≤ (vs.size : Int) := by omega
      have l3 : (0 : Int) ≤ (pre.length : Int) + 1 := by omega
      have hwr : IntKind.i64.wrap ((pre.length : Int) + 1) = (pre.length : Int) + 1 := by rw [IntKind.wrap_i64]; omega
      have hmm := HM.out
      rw [hsp, Pl.mm0_skip _ _ _ pre hpre] at hmm
      have hsz1 : (vs.extract 0 (pre.length + 1)).size = pre.length + 1 := by rw [ByteArray.size_extract]; omega
      have hsz2 : (vs.extract (pre.length + 1) vs.size).size = vs.size - (pre.length + 1) := by rw [ByteArray.size_extract]; omega
      have Hhd := hide hhd
      have Hrs := hide hrs
      have Hat := hide hat
      clear HM hsp hpre hhd hrs hat
      go_wp2
      go_quiet (fail)
      go_wp2_with fail
      refine (ws26 _ (HB1.out.still (below_drewN (Below.refl _ _) _)) (by rw [hsz1]; omega)).mono ?_
      rintro e w2 ⟨rfl, hb2⟩
      rw [Hhd.out] at hb2
      have HB2 := hide hb2
      clear hb2 HB1
      have hlr : rest.length < vs.size := by
        have : (vs.extract (pre.length + 1) vs.size).data.toList.length = (vs.extract (pre.length + 1) vs.size).size := rfl
        rw [Hrs.out, hsz2] at this
        omega
      have hrl : (vs.extract (pre.length + 1) vs.size).size = rest.length := by
        have : (vs.extract (pre.length + 1) vs.size).data.toList.length = (vs.extract (pre.length + 1) vs.size).size := rfl
        rw [Hrs.out] at this
        exact this.symm
      have hrz : (vs.extract (pre.length + 1) vs.size).size < vs.size := by omega
      have Hrl := hide hrl
      clear hsz1 hsz2 hrl hlr
      generalize vs.extract (pre.length + 1) vs.size = rs at *
      have hmm2 : (lo ++ (pre ++ [c])) ++ (if c = 60 then Pl.mm f.data.toList t.data.toList 1 [] rest else Pl.mm f.data.toList t.data.toList 2 [] rest) = R := by
        rw [← hmm]
        rcases hc with rfl | rfl
        · rw [if_pos rfl, Pl.mm0_lt]; simp
        · rw [if_neg (by decide), Pl.mm0_qu]; simp
      have hlo2 := out_le hmm2
      generalize lo ++ (pre ++ [c]) = lo2 at *
      clear hmm Hhd
      rcases hc with rfl | rfl
      · rw [if_pos rfl] at hmm2
        have x60 : (vs[pre.length].toNat : Int) = 60 := by rw [Hat.out]; rfl
        go_wp2_with fail
        refine (closing_lt rs _).mono ?_
        rintro e w3 ⟨hw, hcase⟩
        subst hw
        rw [Hrs.out] at hcase
        rcases hcase with ⟨rfl, hno⟩ | ⟨t1, X, hX, hno, rfl⟩
        · rw [Pl.mm1_open _ _ rest [] hno, List.nil_append] at hmm2
          have hez : ByteArray.empty.size = 0 := rfl
          have HM2 := hide hmm2
          have lq : (rs.size : Int) ≤ (rs.size : Int) := Int.le_refl _
          clear hmm2 hno
          go_wp2_with fail
          refine (ws26 _ HB2.out (by omega)).mono ?_
          rintro e w4 ⟨rfl, hb4⟩
          rw [Hrs.out, HM2.out] at hb4
          have HB4 := hide hb4
          clear hb4 HB2
          go_wp2
          go_roundw
          case rel => exact ⟨_, R, rfl, by rw [hez]; omega, HB4.out, by rw [show ByteArray.empty.data.toList = [] from rfl]; simp [Pl.mm]⟩
          case measure => simp only [szOf]; rw [hez]; omega
        · rw [hX, Pl.mm1_closed _ _ X t1 [] hno, List.nil_append] at hmm2
          obtain ⟨k1, k2, _, k4⟩ := head_part rs t1 62 X (Hrs.out.trans hX)
          have HT1 : Hid ((rs.extract 0 t1.length).data.toList = t1) := by show _ = _; rw [cut_part, Hrs.out, hX, List.take_left]
          have hts : (rs.extract 0 t1.length).size ≤ 65536 := by rw [ByteArray.size_extract]; omega
          have hxs : (rs.extract (t1.length + 1) rs.size).size < vs.size := by rw [ByteArray.size_extract]; omega
          have x62 : (rs[t1.length].toNat : Int) = 62 := by rw [k2]; rfl
          have q1 : (t1.length : Int) < (rs.size : Int) := by omega
          have q2 : (t1.length : Int) ≤ (rs.size : Int) := by omega
          have q3 : (t1.length : Int) + 1 ≤ (rs.size : Int) := by omega
          have q4 : (0 : Int) ≤ (t1.length : Int) + 1 := by omega
          have hwr1 : IntKind.i64.wrap ((t1.length : Int) + 1) = (t1.length : Int) + 1 := by rw [IntKind.wrap_i64]; omega
          have hrb := Pl.rb_len f.data.toList t.data.toList t1
          have htl : t.data.toList.length = t.size := rfl
          have HX := hide k4
          have HM2 := hide hmm2
          clear hmm2 hno k2 k4 hX
          go_wp2_with fail
          refine (rebase27 _ f t _ hts ht).mono ?_
          rintro e w4 ⟨hb4, rfl⟩
          have HB4 := hide (HB2.out.still hb4)
          rw [HT1.out]
          clear hb4 HB2
          go_wp2_with fail
          refine (ws26 _ HB4.out (by rw [tx_size]; omega)).mono ?_
          rintro e w5 ⟨rfl, hb5⟩
          rw [tx_list] at hb5
          have HB5 := hide hb5
          clear hb5 HB4
          go_wp2_with fail
          refine (wb28 62 _ rfl HB5.out (by rw [List.length_append]; omega)).mono ?_
          rintro e w6 ⟨rfl, hb6⟩
          have HB6 := hide hb6
          clear hb6 HB5
          go_wp2
          go_roundw
          case rel => exact ⟨_, _, rfl, by omega, HB6.out, by rw [HX.out, ← HM2.out]; simp⟩
          case measure => simp only [szOf]; omega
      · rw [if_neg (by decide), Pl.mm2_run _ _ _ rest (Nat.le_refl _)] at hmm2
        have x34 : (vs[pre.length].toNat : Int) = 34 := by rw [Hat.out]; rfl
        have hcl := closing_qu rs w2 (by omega)
        rw [Hrs.out] at hcl
        have hqle := Pl.qe_le _ rest (Nat.le_refl _)
        have hqh := qe_hit _ rest (Nat.le_refl _)
        have hrl2 := Hrl.out
        generalize Pl.qe rest = n at *
        have HCL := hide hcl
        clear hcl
        by_cases hn : n < rest.length
        · rw [if_pos hn] at hmm2
          have hlt2 : n < rs.size := by omega
          have h34 : rs[n] = 34 := by
            have h1 := at_list rs n hlt2
            rw [Hrs.out, hqh hn] at h1
            exact (Option.some.inj h1).symm
          have x342 : (rs[n].toNat : Int) = 34 := by rw [h34]; rfl
          have HT1 : Hid ((rs.extract 0 n).data.toList = rest.take n) := by show _ = _; rw [cut_part, Hrs.out]
          have hts : (rs.extract 0 n).size ≤ 65536 := by rw [ByteArray.size_extract]; omega
          have HX : Hid ((rs.extract (n + 1) rs.size).data.toList = rest.drop (n + 1)) := by show _ = _; rw [rest_part, Hrs.out]
          have hxs : (rs.extract (n + 1) rs.size).size < vs.size := by rw [ByteArray.size_extract]; omega
          have q1 : (n : Int) < (rs.size : Int) := by omega
          have q2 : (n : Int) ≤ (rs.size : Int) := by omega
          have q3 : (n : Int) + 1 ≤ (rs.size : Int) := by omega
          have q4 : (0 : Int) ≤ (n : Int) + 1 := by omega
          have hwr1 : IntKind.i64.wrap ((n : Int) + 1) = (n : Int) + 1 := by rw [IntKind.wrap_i64]; omega
          have htk : (rest.take n).length ≤ 65536 := by rw [List.length_take]; omega
          have HM2 := hide hmm2
          clear hmm2 hqh h34 hn hqle hrl2
          go_wp2_with fail
          refine HCL.out.mono ?_
          rintro e w3 ⟨rfl, hw⟩
          subst hw
          clear HCL
          go_wp2_with fail
          refine (ws26 _ HB2.out (by omega)).mono ?_
          rintro e w5 ⟨rfl, hb5⟩
          rw [HT1.out] at hb5
          have HB5 := hide hb5
          clear hb5 HB2
          go_wp2_with fail
          refine (wb28 34 _ rfl HB5.out (by rw [List.length_append]; omega)).mono ?_
          rintro e w6 ⟨rfl, hb6⟩
          have HB6 := hide hb6
          clear hb6 HB5
          go_wp2
          go_roundw
          case rel => exact ⟨_, _, rfl, by omega, HB6.out, by rw [HX.out, ← HM2.out]; simp⟩
          case measure => simp only [szOf]; omega
        · rw [if_neg hn, List.append_nil] at hmm2
          have en : n = rs.size := by omega
          subst en
          rw [Hrl.out, List.take_length] at hmm2
          have hez : ByteArray.empty.size = 0 := rfl
          have HM2 := hide hmm2
          have lq : (rs.size : Int) ≤ (rs.size : Int) := Int.le_refl _
          clear hmm2 hqh hn hqle hrl2
          go_wp2_with fail
          refine HCL.out.mono ?_
          rintro e w3 ⟨rfl, hw⟩
          subst hw
          clear HCL
          go_wp2_with fail
          refine (ws26 _ HB2.out (by omega)).mono ?_
          rintro e w4 ⟨rfl, hb4⟩
          rw [Hrs.out, HM2.out] at hb4
          have HB4 := hide hb4
          clear hb4 HB2
          go_wp2
          go_roundw
          case rel => exact ⟨_, R, rfl, by rw [hez]; omega, HB4.out, by rw [show ByteArray.empty.data.toList = [] from rfl]; simp [Pl.mm]⟩
          case measure => simp only [szOf]; rw [hez]; omega
end Go.Proofs.Qxb6601067a

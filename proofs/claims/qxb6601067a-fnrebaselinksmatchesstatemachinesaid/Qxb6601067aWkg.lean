import Derived.Test.Qxb6601067aWkf
namespace Go.Proofs.Qxb6601067a
open Go.RowKit

/-- Two rows of the call's own, apart. -/
structure Two (B : Nat) (w wr : World) (vo va : Value) (lo la : List UInt8) : Prop where
  o : Row B wr vo lo
  a : Row B wr va la
  d : ∀ k, va.ownBlock = some k → vo.ownBlock ≠ some k
  b : Below B w wr
  z : B ≤ wr.heap.size

theorem Two.swap {B : Nat} {w wr : World} {vo va : Value} {lo la : List UInt8} (h : Two B w wr vo va lo la) : Two B w wr va vo la lo :=
  ⟨h.a, h.o, fun k h1 h2 => h.d k h2 h1, h.b, h.z⟩
theorem Two.nil {B : Nat} {w wr : World} {vo va : Value} {lo la : List UInt8} (h : Two B w wr vo va lo la) : Two B w wr vo (.slice none 0 0) lo [] :=
  ⟨h.o, World.ownsRow_nil _ _ _ _, fun k hk => (by cases hk), h.b, h.z⟩

/-- What an append or a helper does: vo's own row and new blocks. -/
theorem Two.grow {B : Nat} {w wr w1 : World} {vo va v' : Value} {lo la l' : List UInt8} (h : Two B w wr vo va lo la) (hr : Row B w1 v' l') (hg : wr.grownBy w1 vo.ownBlock) (hl : ∀ k, v'.ownBlock = some k → vo.ownBlock = some k ∨ wr.heap.size ≤ k) : Two B w w1 v' va l' la := by
  refine ⟨hr, ?_, ?_, ?_, Nat.le_trans h.z hg.size⟩
  · refine World.ownsRow.kept h.a hg ?_
    cases hv : va.ownBlock with
    | none => exact Or.inl rfl
    | some k =>
      right
      intro e
      exact h.d k hv e.symm
  · intro k hk hk'
    rcases hl k hk' with e | e
    · exact h.d k hk e
    · have := (h.a.lt k hk).2
      omega
  · exact h.b.grown hg h.z (fun k hk => (h.o.lt k hk).1)

theorem Two.snoc {B g cap n : Nat} {w wr w1 : World} {o : Obj} {vo va : Value} {lo la : List UInt8} {c : UInt8} {x : Int} (h : Two B w wr vo va lo la) (hx : x = (c.toNat : Int)) (hn : n = lo.length + 1)
    (hown : w1.ownsRow B 5 1 (.slice (some ⟨g, 0, none⟩) n cap) n (bv lo ++ [.int .u8 x])) (hgrow : (wr.alloc o).grownBy w1 vo.ownBlock) (hat : vo.ownBlock = some g ∨ g = wr.heap.size + 1) :
    Two B w w1 (.slice (some ⟨g, 0, none⟩) n cap) va (lo ++ [c]) la := by
  refine h.grow (row_snoc hx hn hown) (grow_step (World.grownBy.refl _ _) (fun k hk => Or.inl hk) hgrow) (fun k hk => ?_)
  have e : g = k := by simpa [Value.ownBlock] using hk
  subst e
  rcases hat with h' | h'
  · exact Or.inl h'
  · right; omega

theorem Two.still {B : Nat} {w wr w1 : World} {vo va : Value} {lo la : List UInt8} (h : Two B w wr vo va lo la) (hb : Below wr.heap.size wr w1) : Two B w w1 vo va lo la := by
  have hg : wr.grownBy w1 none := ⟨hb.os, hb.tape, hb.output, hb.size, fun k hk _ => hb.block k hk⟩
  have kept : ∀ (v : Value) (l : List UInt8), Row B wr v l → Row B w1 v l := fun v l hr => World.ownsRow.kept hr hg (by
    cases v.ownBlock with
    | none => exact Or.inl rfl
    | some k => right; intro e; cases e)
  exact ⟨kept _ _ h.o, kept _ _ h.a, h.d, h.b.trans (hb.mono h.z), Nat.le_trans h.z hb.size⟩

/-- What is known of the machine's state. -/
def St (F T R : List UInt8) (v : ByteArray) (B : Nat) (w : World) (vo va x9 x10 : Value) (wr : World) : Prop :=
  ∃ (i st : Nat) (lo la : List UInt8), i ≤ v.size ∧ st ≤ 3 ∧ x9 = .int .i64 (st : Int) ∧ x10 = .int .i64 (i : Int) ∧ Two B w wr vo va lo la ∧ la.length ≤ i ∧ lo ++ Pl.mm F T st (if st = 1 then la else []) (v.data.toList.drop i) = R

theorem out_le {lo X R : List UInt8} (h : lo ++ X = R) : lo.length ≤ R.length := by rw [← h, List.length_append]; omega

theorem MdSaid_close {w w' : World} {R : List UInt8} {r : ByteArray} (h : r = tx R) (hb : Below w.heap.size w w') : (Ending.returned (.string r) = .returned (.string (tx R)) ∧ Below w.heap.size w w') := ⟨by rw [h], hb⟩

set_option maxRecDepth 100000 in
set_option maxHeartbeats 8000000 in
theorem model10 (v f t : ByteArray) (w : World) (hv : v.size ≤ 65536) (ht : t.size ≤ 65536) (hf : f.size ≤ 65536) :
    Calls Try.prog 10 #[.string v, .string f, .string t] w fun e w' => e = .returned (.string (tx (Pl.mm f.data.toList t.data.toList 0 [] v.data.toList))) ∧ Below w.heap.size w w' := by
  obtain ⟨i0, hi0, hz0, hz1, hz2⟩ := info_parts Try.info5
  have hRl : (Pl.mm f.data.toList t.data.toList 0 [] v.data.toList).length ≤ 5000000000 := by
    have h := Pl.mm_len f.data.toList t.data.toList v.data.toList 0 []
    have e1 : v.data.toList.length = v.size := rfl
    have e2 : t.data.toList.length = t.size := rfl
    rw [e1, e2] at h
    have : v.size * (t.size + 1) ≤ 65536 * 65537 := Nat.mul_le_mul hv (by omega)
    simp at h
    omega
  generalize hR : Pl.mm f.data.toList t.data.toList 0 [] v.data.toList = R at *
  have HR := hide hR
  clear hR
  go_enter Try.func10, Try.ntmps10
  go_wp2
  go_loopw [7, 8, 9, 10] (fun vo va x9 x10 wr => St f.data.toList t.data.toList R v w.heap.size w vo va x9 x10 wr) (fun _ _ _ x10 _ => v.size - (intOf x10).toNat)
  case atStart =>
    refine ⟨0, 0, [], [], Nat.zero_le _, by decide, rfl, rfl, ⟨?_, World.ownsRow_nil _ _ _ _, fun k hk => (by cases hk), (Below.refl _ _).alloc (Nat.le_refl _) _, (by simp)⟩, Nat.le_refl _, ?_⟩
    · exact World.ownsRow_made w #[] 0 (Nat.le_refl _) (Nat.zero_le _) rfl
    · rw [if_neg (by decide)]; exact HR.out
  case round =>
    obtain ⟨i, st, lo, la, hi, hst, rfl, rfl, htwo, hla, hmm⟩ := hrel
    have hlo := out_le hmm
    have hwz := htwo.z
    have HT := hide htwo
    clear htwo HR
    by_cases hlt : i < v.size
    · have l1 : (i : Int) < (v.size : Int) := by omega
      have h4 : st = 0 ∨ st = 1 ∨ st = 2 ∨ st = 3 := by omega
      rcases h4 with rfl | rfl | rfl | rfl
      · rw [if_neg (by decide), drop_at v i hlt, Pl.mm, if_pos rfl] at hmm
        by_cases h60 : v[i] = 60
        · have x : (v[i].toNat : Int) = 60 := by rw [h60]; rfl
          have HX := hide x
          rw [if_pos h60] at hmm
          have HM : Hid ((lo ++ [v[i]]) ++ Pl.mm f.data.toList t.data.toList 1 [] (v.data.toList.drop (i + 1)) = R) := by
            show _ = _
            rw [List.append_assoc]
            exact hmm
          clear hmm h60
          go_wp2_with (at_builtin; refine wpList_append_lies _ rfl _ _ 30 rfl w.heap.size 5 i0 (.int .u8 0) 1 1 Try.underlying30 hi0 hz0 hz1 hz2 rfl (by decide) _ _ _ rfl (HT.out.o.alloc _) ⟨_, 0, none⟩ 1 1 [.int .u8 60] rfl rfl ?d1c1 ?d1c2 (by decide) ?d1c3 ?d1c4 ?d1c5 _ rfl ?_)
          try
            case d1c1 =>
              intro j u hj
              match j, hj with
              | 0, hj => simp at hj; subst hj; simp [Addr.add]
          case d1c2 => intro u hu; simp at hu; subst hu; rfl
          case d1c3 => unfold maxLen; omega
          case d1c4 => omega
          case d1c5 => simp; omega
          intro g cap w2 hown hgrow hat _
          have HT2 := hide (id (HT.out.snoc (c := v[i]) (by rw [HX.out]) rfl hown hgrow (hat.imp id (fun h => by first | exact h | (rw [h]; simp)))))
          clear hown hgrow hat
          go_wp2
          go_roundw
          case rel => exact ⟨i + 1, 1, lo ++ [v[i]], [], by omega, by decide, rfl, by go_num, HT2.out.nil, by simp, (by rw [if_pos rfl]; exact HM.out)⟩
          case measure => simp [intOf]; omega
        have x60 : ((v[i].toNat : Int) == 60) = false := byte_ne (n := 60) 60 rfl h60
        rw [if_neg h60] at hmm
        by_cases h34 : v[i] = 34
        · have x : (v[i].toNat : Int) = 34 := by rw [h34]; rfl
          have HX := hide x
          rw [if_pos h34] at hmm
          have HM : Hid ((lo ++ [v[i]]) ++ Pl.mm f.data.toList t.data.toList 2 [] (v.data.toList.drop (i + 1)) = R) := by
            show _ = _
            rw [List.append_assoc]
            exact hmm
          clear hmm h60 h34 x60
          go_wp2_with (at_builtin; refine wpList_append_lies _ rfl _ _ 30 rfl w.heap.size 5 i0 (.int .u8 0) 1 1 Try.underlying30 hi0 hz0 hz1 hz2 rfl (by decide) _ _ _ rfl (HT.out.o.alloc _) ⟨_, 0, none⟩ 1 1 [.int .u8 34] rfl rfl ?d2c1 ?d2c2 (by decide) ?d2c3 ?d2c4 ?d2c5 _ rfl ?_)
          try
            case d2c1 =>
              intro j u hj
              match j, hj with
              | 0, hj => simp at hj; subst hj; simp [Addr.add]
          case d2c2 => intro u hu; simp at hu; subst hu; rfl
          case d2c3 => unfold maxLen; omega
          case d2c4 => omega
          case d2c5 => simp; omega
          intro g cap w2 hown hgrow hat _
          have HT2 := hide (id (HT.out.snoc (c := v[i]) (by rw [HX.out]) rfl hown hgrow (hat.imp id (fun h => by first | exact h | (rw [h]; simp)))))
          clear hown hgrow hat
          go_wp2
          go_roundw
          case rel => exact ⟨i + 1, 2, lo ++ [v[i]], la, by omega, by decide, rfl, by go_num, HT2.out, by omega, (by rw [if_neg (by decide)]; exact HM.out)⟩
          case measure => simp [intOf]; omega
        have x34 : ((v[i].toNat : Int) == 34) = false := byte_ne (n := 34) 34 rfl h34
        rw [if_neg h34] at hmm
        have HM : Hid ((lo ++ [v[i]]) ++ Pl.mm f.data.toList t.data.toList 0 [] (v.data.toList.drop (i + 1)) = R) := by
          show _ = _
          rw [List.append_assoc]
          exact hmm
        clear hmm h60 h34
        go_wp2_with (at_builtin; refine wpList_append_lies _ rfl _ _ 30 rfl w.heap.size 5 i0 (.int .u8 0) 1 1 Try.underlying30 hi0 hz0 hz1 hz2 rfl (by decide) _ _ _ rfl (HT.out.o.alloc _) ⟨_, 0, none⟩ 1 1 [.int .u8 (v[i].toNat : Int)] rfl rfl ?d3c1 ?d3c2 (by decide) ?d3c3 ?d3c4 ?d3c5 _ rfl ?_)
        try
          case d3c1 =>
            intro j u hj
            match j, hj with
            | 0, hj => simp at hj; subst hj; simp [Addr.add]
        case d3c2 => intro u hu; simp at hu; subst hu; rfl
        case d3c3 => unfold maxLen; omega
        case d3c4 => omega
        case d3c5 => simp; omega
        intro g cap w2 hown hgrow hat _
        have HT2 := hide (id (HT.out.snoc (c := v[i]) rfl rfl hown hgrow (hat.imp id (fun h => by first | exact h | (rw [h]; simp)))))
        clear hown hgrow hat
        go_wp2
        go_roundw
        case rel => exact ⟨i + 1, 0, lo ++ [v[i]], la, by omega, by decide, rfl, by go_num, HT2.out, by omega, (by rw [if_neg (by decide)]; exact HM.out)⟩
        case measure => simp [intOf]; omega
      · rw [if_pos rfl, drop_at v i hlt, Pl.mm, if_neg (by decide), if_pos rfl] at hmm
        by_cases h62 : v[i] = 62
        · have x : (v[i].toNat : Int) = 62 := by rw [h62]; rfl
          have HX := hide x
          rw [if_pos h62, ← List.append_assoc] at hmm
          have hcv := row_string HT.out.a
          have hrb := Pl.rb_len f.data.toList t.data.toList la
          have htl : t.data.toList.length = t.size := rfl
          go_wp2_with fail
          refine (modelRebase22 (tx la) f t _ (by rw [tx_size]; omega) (by omega) (by omega)).mono ?_
          rintro e w1 ⟨hb1, rfl⟩
          rw [tx_list]
          have htw := HT.out.still hb1
          have hap := append21 w.heap.size _ lo (tx (Pl.rb f.data.toList t.data.toList la)) w1 htw.o htw.z (by rw [tx_size]; omega) (by omega)
          rw [tx_list] at hap
          have HT1 := hide htw
          have HAp := hide hap
          clear htw hap hb1 hcv HT
          go_wp2_with fail
          refine HAp.out.mono ?_
          rintro e w3 ⟨v', rfl, hr3, hg3, hl3⟩
          have hz3 := (HT1.out.grow hr3 hg3 hl3).z
          have HT3 := hide (HT1.out.grow hr3 hg3 hl3)
          have hlo3 : (lo ++ Pl.rb f.data.toList t.data.toList la).length ≤ R.length := out_le hmm
          clear hr3 hg3 hl3 HT1 HAp
          generalize lo ++ Pl.rb f.data.toList t.data.toList la = lo3 at *
          have HM : Hid ((lo3 ++ [v[i]]) ++ Pl.mm f.data.toList t.data.toList 0 [] (v.data.toList.drop (i + 1)) = R) := by
            show _ = _
            rw [List.append_assoc]
            exact hmm
          clear hmm h62
          go_wp2_with (at_builtin; refine wpList_append_lies _ rfl _ _ 30 rfl w.heap.size 5 i0 (.int .u8 0) 1 1 Try.underlying30 hi0 hz0 hz1 hz2 rfl (by decide) _ _ _ rfl (HT3.out.o.alloc _) ⟨_, 0, none⟩ 1 1 [.int .u8 62] rfl rfl ?d4c1 ?d4c2 (by decide) ?d4c3 ?d4c4 ?d4c5 _ rfl ?_)
          try
            case d4c1 =>
              intro j u hj
              match j, hj with
              | 0, hj => simp at hj; subst hj; simp [Addr.add]
          case d4c2 => intro u hu; simp at hu; subst hu; rfl
          case d4c3 => unfold maxLen; omega
          case d4c4 => omega
          case d4c5 => simp; omega
          intro g cap w2 hown hgrow hat _
          have HT2 := hide (id (HT3.out.snoc (c := v[i]) (by rw [HX.out]) rfl hown hgrow (hat.imp id (fun h => by first | exact h | (rw [h]; simp)))))
          clear hown hgrow hat
          go_wp2
          go_roundw
          case rel => exact ⟨i + 1, 0, lo3 ++ [v[i]], la, by omega, by decide, rfl, by go_num, HT2.out, by omega, (by rw [if_neg (by decide)]; exact HM.out)⟩
          case measure => simp [intOf]; omega
        have x62 : ((v[i].toNat : Int) == 62) = false := byte_ne (n := 62) 62 rfl h62
        rw [if_neg h62] at hmm
        have HM : Hid (lo ++ Pl.mm f.data.toList t.data.toList 1 (la ++ [v[i]]) (v.data.toList.drop (i + 1)) = R) := hmm
        clear hmm h62
        go_wp2_with (at_builtin; refine wpList_append_lies _ rfl _ _ 30 rfl w.heap.size 5 i0 (.int .u8 0) 1 1 Try.underlying30 hi0 hz0 hz1 hz2 rfl (by decide) _ _ _ rfl (HT.out.a.alloc _) ⟨_, 0, none⟩ 1 1 [.int .u8 (v[i].toNat : Int)] rfl rfl ?d5c1 ?d5c2 (by decide) ?d5c3 ?d5c4 ?d5c5 _ rfl ?_)
        try
          case d5c1 =>
            intro j u hj
            match j, hj with
            | 0, hj => simp at hj; subst hj; simp [Addr.add]
        case d5c2 => intro u hu; simp at hu; subst hu; rfl
        case d5c3 => unfold maxLen; omega
        case d5c4 => omega
        case d5c5 => simp; omega
        intro g cap w2 hown hgrow hat _
        have HT2 := hide (Two.swap (HT.out.swap.snoc (c := v[i]) rfl rfl hown hgrow (hat.imp id (fun h => by first | exact h | (rw [h]; simp)))))
        clear hown hgrow hat
        go_wp2
        go_roundw
        case rel => exact ⟨i + 1, 1, lo, la ++ [v[i]], by omega, by decide, rfl, by go_num, HT2.out, by simp; omega, (by rw [if_pos rfl]; exact HM.out)⟩
        case measure => simp [intOf]; omega
      · rw [if_neg (by decide), drop_at v i hlt, Pl.mm, if_neg (by decide), if_neg (by decide), if_pos rfl] at hmm
        by_cases h92 : v[i] = 92
        · have x : (v[i].toNat : Int) = 92 := by rw [h92]; rfl
          have HX := hide x
          rw [if_pos h92] at hmm
          have HM : Hid ((lo ++ [v[i]]) ++ Pl.mm f.data.toList t.data.toList 3 [] (v.data.toList.drop (i + 1)) = R) := by
            show _ = _
            rw [List.append_assoc]
            exact hmm
          clear hmm h92
          go_wp2_with (at_builtin; refine wpList_append_lies _ rfl _ _ 30 rfl w.heap.size 5 i0 (.int .u8 0) 1 1 Try.underlying30 hi0 hz0 hz1 hz2 rfl (by decide) _ _ _ rfl (HT.out.o.alloc _) ⟨_, 0, none⟩ 1 1 [.int .u8 92] rfl rfl ?d6c1 ?d6c2 (by decide) ?d6c3 ?d6c4 ?d6c5 _ rfl ?_)
          try
            case d6c1 =>
              intro j u hj
              match j, hj with
              | 0, hj => simp at hj; subst hj; simp [Addr.add]
          case d6c2 => intro u hu; simp at hu; subst hu; rfl
          case d6c3 => unfold maxLen; omega
          case d6c4 => omega
          case d6c5 => simp; omega
          intro g cap w2 hown hgrow hat _
          have HT2 := hide (id (HT.out.snoc (c := v[i]) (by rw [HX.out]) rfl hown hgrow (hat.imp id (fun h => by first | exact h | (rw [h]; simp)))))
          clear hown hgrow hat
          go_wp2
          go_roundw
          case rel => exact ⟨i + 1, 3, lo ++ [v[i]], la, by omega, by decide, rfl, by go_num, HT2.out, by omega, (by rw [if_neg (by decide)]; exact HM.out)⟩
          case measure => simp [intOf]; omega
        have x92 : ((v[i].toNat : Int) == 92) = false := byte_ne (n := 92) 92 rfl h92
        rw [if_neg h92] at hmm
        by_cases h34 : v[i] = 34
        · have x : (v[i].toNat : Int) = 34 := by rw [h34]; rfl
          have HX := hide x
          rw [if_pos h34] at hmm
          have HM : Hid ((lo ++ [v[i]]) ++ Pl.mm f.data.toList t.data.toList 0 [] (v.data.toList.drop (i + 1)) = R) := by
            show _ = _
            rw [List.append_assoc]
            exact hmm
          clear hmm h92 h34 x92
          go_wp2_with (at_builtin; refine wpList_append_lies _ rfl _ _ 30 rfl w.heap.size 5 i0 (.int .u8 0) 1 1 Try.underlying30 hi0 hz0 hz1 hz2 rfl (by decide) _ _ _ rfl (HT.out.o.alloc _) ⟨_, 0, none⟩ 1 1 [.int .u8 34] rfl rfl ?d7c1 ?d7c2 (by decide) ?d7c3 ?d7c4 ?d7c5 _ rfl ?_)
          try
            case d7c1 =>
              intro j u hj
              match j, hj with
              | 0, hj => simp at hj; subst hj; simp [Addr.add]
          case d7c2 => intro u hu; simp at hu; subst hu; rfl
          case d7c3 => unfold maxLen; omega
          case d7c4 => omega
          case d7c5 => simp; omega
          intro g cap w2 hown hgrow hat _
          have HT2 := hide (id (HT.out.snoc (c := v[i]) (by rw [HX.out]) rfl hown hgrow (hat.imp id (fun h => by first | exact h | (rw [h]; simp)))))
          clear hown hgrow hat
          go_wp2
          go_roundw
          case rel => exact ⟨i + 1, 0, lo ++ [v[i]], la, by omega, by decide, rfl, by go_num, HT2.out, by omega, (by rw [if_neg (by decide)]; exact HM.out)⟩
          case measure => simp [intOf]; omega
        have x34 : ((v[i].toNat : Int) == 34) = false := byte_ne (n := 34) 34 rfl h34
        rw [if_neg h34] at hmm
        have HM : Hid ((lo ++ [v[i]]) ++ Pl.mm f.data.toList t.data.toList 2 [] (v.data.toList.drop (i + 1)) = R) := by
          show _ = _
          rw [List.append_assoc]
          exact hmm
        clear hmm h92 h34
        go_wp2_with (at_builtin; refine wpList_append_lies _ rfl _ _ 30 rfl w.heap.size 5 i0 (.int .u8 0) 1 1 Try.underlying30 hi0 hz0 hz1 hz2 rfl (by decide) _ _ _ rfl (HT.out.o.alloc _) ⟨_, 0, none⟩ 1 1 [.int .u8 (v[i].toNat : Int)] rfl rfl ?d8c1 ?d8c2 (by decide) ?d8c3 ?d8c4 ?d8c5 _ rfl ?_)
        try
          case d8c1 =>
            intro j u hj
            match j, hj with
            | 0, hj => simp at hj; subst hj; simp [Addr.add]
        case d8c2 => intro u hu; simp at hu; subst hu; rfl
        case d8c3 => unfold maxLen; omega
        case d8c4 => omega
        case d8c5 => simp; omega
        intro g cap w2 hown hgrow hat _
        have HT2 := hide (id (HT.out.snoc (c := v[i]) rfl rfl hown hgrow (hat.imp id (fun h => by first | exact h | (rw [h]; simp)))))
        clear hown hgrow hat
        go_wp2
        go_roundw
        case rel => exact ⟨i + 1, 2, lo ++ [v[i]], la, by omega, by decide, rfl, by go_num, HT2.out, by omega, (by rw [if_neg (by decide)]; exact HM.out)⟩
        case measure => simp [intOf]; omega
      · rw [if_neg (by decide), drop_at v i hlt, Pl.mm, if_neg (by decide), if_neg (by decide), if_neg (by decide)] at hmm
        have HM : Hid ((lo ++ [v[i]]) ++ Pl.mm f.data.toList t.data.toList 2 [] (v.data.toList.drop (i + 1)) = R) := by
          show _ = _
          rw [List.append_assoc]
          exact hmm
        clear hmm
        go_wp2_with (at_builtin; refine wpList_append_lies _ rfl _ _ 30 rfl w.heap.size 5 i0 (.int .u8 0) 1 1 Try.underlying30 hi0 hz0 hz1 hz2 rfl (by decide) _ _ _ rfl (HT.out.o.alloc _) ⟨_, 0, none⟩ 1 1 [.int .u8 (v[i].toNat : Int)] rfl rfl ?d9c1 ?d9c2 (by decide) ?d9c3 ?d9c4 ?d9c5 _ rfl ?_)
        try
          case d9c1 =>
            intro j u hj
            match j, hj with
            | 0, hj => simp at hj; subst hj; simp [Addr.add]
        case d9c2 => intro u hu; simp at hu; subst hu; rfl
        case d9c3 => unfold maxLen; omega
        case d9c4 => omega
        case d9c5 => simp; omega
        intro g cap w2 hown hgrow hat _
        have HT2 := hide (id (HT.out.snoc (c := v[i]) rfl rfl hown hgrow (hat.imp id (fun h => by first | exact h | (rw [h]; simp)))))
        clear hown hgrow hat
        go_wp2
        go_roundw
        case rel => exact ⟨i + 1, 2, lo ++ [v[i]], la, by omega, by decide, rfl, by go_num, HT2.out, by omega, (by rw [if_neg (by decide)]; exact HM.out)⟩
        case measure => simp [intOf]; omega
    · have l1 : ¬ ((i : Int) < (v.size : Int)) := by omega
      have ei : i = v.size := by omega
      rw [ei, drop_end, Pl.mm] at hmm
      by_cases h1 : st = 1
      · subst h1
        rw [if_pos rfl, if_pos rfl] at hmm
        have hcv := row_string HT.out.a
        have hap := append21 w.heap.size _ lo (tx la) _ HT.out.o HT.out.z (by rw [tx_size]; omega) (by omega)
        rw [tx_list, hmm] at hap
        have HAp := hide hap
        clear hmm hap ei
        go_wp2_with fail
        refine HAp.out.mono ?_
        rintro e w3 ⟨v', rfl, hr3, hg3, hl3⟩
        have hcv3 := row_string hr3
        have HB3 := hide (HT.out.grow hr3 hg3 hl3).b
        clear hr3 hg3 hl3 HAp hcv HT
        go_wp2
        go_ret
        exact MdSaid_close rfl HB3.out
      · rw [if_neg h1, List.append_nil] at hmm
        have x1 : ((st : Int) == 1) = false := beq_eq_false_iff_ne.2 (by omega)
        have hcv := row_string HT.out.o
        have HB := hide HT.out.b
        rw [hmm] at hcv
        clear hmm ei h1 HT
        go_wp2
        go_ret
        exact MdSaid_close rfl HB.out
end Go.Proofs.Qxb6601067a

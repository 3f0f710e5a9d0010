import Derived.Test.Qxb6601067aWkd
namespace Go.Proofs.Qxb6601067a
open Go.RowKit

theorem pre_of (F t : List UInt8) (h : ∀ j, j < F.length → t[j]? = F[j]?) : F.isPrefixOf t = true := by
  rw [List.isPrefixOf_iff_prefix, List.prefix_iff_eq_take]
  apply List.ext_getElem?
  intro j
  rw [List.getElem?_take]
  by_cases hj : j < F.length
  · rw [if_pos hj, h j hj]
  · rw [if_neg hj, List.getElem?_eq_none (by omega)]
theorem pre_not (F t : List UInt8) (j : Nat) (hj : j < F.length) (h : t[j]? ≠ F[j]?) : F.isPrefixOf t = false := by
  cases hp : F.isPrefixOf t
  · rfl
  · exfalso
    rw [List.isPrefixOf_iff_prefix, List.prefix_iff_eq_take] at hp
    apply h
    conv => rhs; rw [hp]
    rw [List.getElem?_take, if_pos hj]
theorem pre_short (F t : List UInt8) (h : t.length < F.length) : F.isPrefixOf t = false := by
  cases hp : F.isPrefixOf t
  · rfl
  · exfalso
    rw [List.isPrefixOf_iff_prefix] at hp
    have := hp.length_le
    omega

theorem byte_eq_list {a b : ByteArray} {i : Nat} (ha : i < a.size) (hb : i < b.size) (h : a[i] = b[i]) : a.data.toList[i]? = b.data.toList[i]? := by
  rw [at_list a i ha, at_list b i hb, h]
theorem byte_ne_list {a b : ByteArray} {i : Nat} (ha : i < a.size) (hb : i < b.size) (h : a[i] ≠ b[i]) : a.data.toList[i]? ≠ b.data.toList[i]? := by
  rw [at_list a i ha, at_list b i hb]
  intro e
  exact h (Option.some.inj e)

set_option maxRecDepth 100000 in
set_option maxHeartbeats 2000000 in
theorem modelRebase22 (s f t : ByteArray) (w : World) (hs : s.size ≤ 70000) (ht : t.size ≤ 70000) (hf : f.size ≤ 70000) :
    Calls Try.prog 22 #[.string s, .string f, .string t] w (RbSaid f t s w) := by
  have ns : s.data.toList.length = s.size := rfl
  have nf : f.data.toList.length = f.size := rfl
  by_cases hsh : s.size < f.size
  · have l0 : (s.size : Int) < (f.size : Int) := by omega
    have HR := hide (rb_no f.data.toList t.data.toList s.data.toList (pre_short _ _ (by omega))).symm
    clear ns nf
    go_enter Try.func22, Try.ntmps22
    go_wp2
    go_ret
    exact rb_close HR.out (Below.refl _ _)
  have l0 : ¬ ((s.size : Int) < (f.size : Int)) := by omega
  have HNs := hide ns
  have HNf := hide nf
  clear ns nf
  go_enter Try.func22, Try.ntmps22
  go_wp2
  go_loopw [7] (fun x wr => ∃ i : Nat, i ≤ f.size ∧ x = .int .i64 (i : Int) ∧ (∀ j, j < i → s.data.toList[j]? = f.data.toList[j]?) ∧ Below w.heap.size w wr) (fun x _ => f.size - (intOf x).toNat)
  case atStart => exact ⟨0, Nat.zero_le _, rfl, fun j h => by omega, Below.refl _ _⟩
  case round =>
    obtain ⟨i, hi, rfl, hsame, hbel⟩ := hrel
    have HS := hide hsame
    have HB := hide hbel
    clear hsame hbel
    by_cases hlt : i < f.size
    · have l1 : (i : Int) < (f.size : Int) := by omega
      have l2 : (i : Int) < (s.size : Int) := by omega
      have hlt2 : i < s.size := by omega
      by_cases he : s[i] = f[i]
      · have e1 : ((s[i].toNat : Int) != (f[i].toNat : Int)) = false := by rw [he, bne_eq_false_iff_eq]
        have HE := hide (byte_eq_list hlt2 hlt he)
        clear he
        go_wp2
        go_quiet (fail)
        go_wp2
        go_roundw
        case rel =>
          refine ⟨i + 1, by omega, by go_num, fun j hj => ?_, below_drewN HB.out _⟩
          by_cases e : j = i
          · rw [e]; exact HE.out
          · exact HS.out j (by omega)
        case measure => simp [intOf]; omega
      · have e1 : ((s[i].toNat : Int) != (f[i].toNat : Int)) = true := by
          rw [bne_iff_ne]
          intro k
          exact he (UInt8.toNat_inj.1 (by omega))
        have HR := hide (rb_no f.data.toList t.data.toList s.data.toList (pre_not _ _ i (by rw [HNf.out]; exact hlt) (byte_ne_list hlt2 hlt he))).symm
        clear he
        go_wp2
        go_quiet (fail)
        go_wp2
        go_ret
        exact rb_close HR.out (below_drewN HB.out _)
    · have l1 : ¬ ((i : Int) < (f.size : Int)) := by omega
      have ei : i = f.size := by omega
      have hpre := pre_of f.data.toList s.data.toList (fun j hj => HS.out j (by rw [HNf.out] at hj; omega))
      by_cases hgt : f.size < s.size
      · have l2 : (f.size : Int) < (s.size : Int) := by omega
        have l3 : (f.size : Int) ≤ (s.size : Int) := by omega
        have hd := drop_at s f.size hgt
        have hok : Pl.okRest (s.data.toList.drop f.data.toList.length) = (s[f.size] == 47 || s[f.size] == 63 || s[f.size] == 35) := by
          rw [HNf.out, hd]; rfl
        have hadd : (t ++ s.extract f.size s.size).data.toList = t.data.toList ++ s.data.toList.drop f.data.toList.length := by
          rw [HNf.out, ← Lib.extract_to_end]; simp [ByteArray.data_append]
        clear hd
        by_cases h47 : s[f.size] = 47
        · have x : (s[f.size].toNat : Int) = 47 := by rw [h47]; rfl
          have HR := hide (hadd.trans (rb_ok f.data.toList t.data.toList s.data.toList hpre (by rw [hok, h47]; rfl)).symm)
          clear h47 hok hpre hadd
          go_wp2
          go_ret
          exact rb_close HR.out HB.out
        by_cases h63 : s[f.size] = 63
        · have x : (s[f.size].toNat : Int) = 63 := by rw [h63]; rfl
          have HR := hide (hadd.trans (rb_ok f.data.toList t.data.toList s.data.toList hpre (by rw [hok, h63]; rfl)).symm)
          clear h63 h47 hok hpre hadd
          go_wp2
          go_ret
          exact rb_close HR.out HB.out
        by_cases h35 : s[f.size] = 35
        · have x : (s[f.size].toNat : Int) = 35 := by rw [h35]; rfl
          have HR := hide (hadd.trans (rb_ok f.data.toList t.data.toList s.data.toList hpre (by rw [hok, h35]; rfl)).symm)
          clear h35 h47 h63 hok hpre hadd
          go_wp2
          go_ret
          exact rb_close HR.out HB.out
        have x1 : ((s[f.size].toNat : Int) != 47) = true := by rw [bne_iff_ne]; exact beq_eq_false_iff_ne.1 (byte_ne (n := 47) 47 rfl h47)
        have x2 : ((s[f.size].toNat : Int) != 63) = true := by rw [bne_iff_ne]; exact beq_eq_false_iff_ne.1 (byte_ne (n := 63) 63 rfl h63)
        have x3 : ((s[f.size].toNat : Int) != 35) = true := by rw [bne_iff_ne]; exact beq_eq_false_iff_ne.1 (byte_ne (n := 35) 35 rfl h35)
        have HR := hide (rb_bad f.data.toList t.data.toList s.data.toList (by rw [hok]; simp [h47, h63, h35])).symm
        clear h35 h47 h63 hok hpre hadd
        go_wp2
        go_ret
        exact rb_close HR.out HB.out
      · have l2 : ¬ ((f.size : Int) < (s.size : Int)) := by omega
        have l3 : (f.size : Int) ≤ (s.size : Int) := by omega
        have esz : f.size = s.size := by omega
        have hadd : (t ++ s.extract f.size s.size).data.toList = t.data.toList ++ s.data.toList.drop f.data.toList.length := by
          rw [HNf.out, ← Lib.extract_to_end]; simp [ByteArray.data_append]
        have HR := hide (hadd.trans (rb_ok f.data.toList t.data.toList s.data.toList hpre (by rw [HNf.out, esz, drop_end]; rfl)).symm)
        clear hpre hadd esz
        go_wp2
        go_ret
        exact rb_close HR.out HB.out
end Go.Proofs.Qxb6601067a

import Derived.Test.Qxb6601067aWkc
namespace Go.Proofs.Qxb6601067a
open Go.RowKit

/-- The text of a list. -/
def tx (l : List UInt8) : ByteArray := ⟨l.toArray⟩
theorem tx_eq {a : ByteArray} {l : List UInt8} (h : a.data.toList = l) : a = tx l := by
  cases a with
  | mk d => subst h; simp [tx]
theorem tx_list (l : List UInt8) : (tx l).data.toList = l := by simp [tx]
theorem tx_size (l : List UInt8) : (tx l).size = l.length := by simp [tx, ByteArray.size]

def RbSaid (f t s : ByteArray) (w : World) (e : Ending) (w' : World) : Prop :=
  Below w.heap.size w w' ∧ e = .returned (.string (tx (Pl.rb f.data.toList t.data.toList s.data.toList)))
theorem rb_close {f t s r : ByteArray} {w w' : World} (h : r.data.toList = Pl.rb f.data.toList t.data.toList s.data.toList) (hb : Below w.heap.size w w') : RbSaid f t s w (.returned (.string r)) w' := by
  refine ⟨hb, ?_⟩
  rw [← tx_eq h]

theorem rb_no (F T t : List UInt8) (h : F.isPrefixOf t = false) : Pl.rb F T t = t := by
  unfold Pl.rb; rw [if_neg (fun k => by rw [h] at k; cases k.1)]
theorem rb_bad (F T t : List UInt8) (h : Pl.okRest (t.drop F.length) = false) : Pl.rb F T t = t := by
  unfold Pl.rb; rw [if_neg (fun k => by rw [h] at k; cases k.2)]
theorem rb_ok (F T t : List UInt8) (h : F.isPrefixOf t = true) (h2 : Pl.okRest (t.drop F.length) = true) : Pl.rb F T t = T ++ t.drop F.length := by
  unfold Pl.rb; rw [if_pos ⟨h, h2⟩]

theorem okRest_cons (q : ByteArray) (c : UInt8) (l : List UInt8) (h : q.data.toList = c :: l) : ∃ h0 : 0 < q.size, q[0] = c := by
  have hz : q.size = (c :: l).length := by rw [← h]; rfl
  have h0 : 0 < q.size := by rw [hz]; simp
  refine ⟨h0, ?_⟩
  have := at_list q 0 h0
  rw [h] at this
  simpa using this.symm

set_option maxRecDepth 100000 in
set_option maxHeartbeats 1000000 in
theorem rebase27 (s f t : ByteArray) (w : World) (hs : s.size ≤ 65536) (ht : t.size ≤ 65536) :
    Calls Try.prog 27 #[.string s, .string f, .string t] w (RbSaid f t s w) := by
  have hcut := fun W => Try.strings_CutPrefix s f W
  cases hp : Lib.hasPrefix s.data.toList f.data.toList
  · rw [hp] at hcut
    generalize (⟨(Lib.trimPrefix s.data.toList f.data.toList).toArray⟩ : ByteArray) = q at hcut
    have HC := hide hcut
    have HR := hide (rb_no f.data.toList t.data.toList s.data.toList hp).symm
    clear hcut hp
    go_enter Try.func27, Try.ntmps27
    go_wp2_with (go_at_call 37; refine (HC.out _).mono ?_; rintro e w1 ⟨rfl, hw⟩; subst hw)
    go_ret
    exact rb_close HR.out (Below.refl _ _)
  · rw [hp] at hcut
    have hq : (tx (Lib.trimPrefix s.data.toList f.data.toList)).data.toList = s.data.toList.drop f.data.toList.length := by
      rw [tx_list]
      unfold Lib.trimPrefix
      rw [hp]
      rfl
    have hcut2 : ∀ W, Calls Try.prog 37 #[.string s, .string f] W fun e w' => e = .returned (.tuple #[.string (tx (Lib.trimPrefix s.data.toList f.data.toList)), .bool true]) ∧ w' = W := hcut
    generalize tx (Lib.trimPrefix s.data.toList f.data.toList) = q at hcut2 hq
    have hqs : q.size ≤ s.size := by
      have e1 : q.size = q.data.toList.length := rfl
      have e2 : s.size = s.data.toList.length := rfl
      rw [e1, hq, List.length_drop]
      omega
    have HC := hide hcut2
    clear hcut hcut2
    cases hd : s.data.toList.drop f.data.toList.length with
    | nil =>
      rw [hd] at hq
      have HR := hide (rb_ok f.data.toList t.data.toList s.data.toList hp (by rw [hd]; rfl)).symm
      have hemp : q.toList.isEmpty = true := by rw [Lib.toList_data, hq]; rfl
      have HQ := hide hq
      have HD := hide hd
      clear hp hq hd
      go_enter Try.func27, Try.ntmps27
      go_wp2_with (go_at_call 37; refine (HC.out _).mono ?_; rintro e w1 ⟨rfl, hw⟩; subst hw)
      go_ret
      exact rb_close (by rw [← HR.out, HD.out, ← HQ.out]; simp [ByteArray.data_append]) (Below.refl _ _)
    | cons c l =>
      rw [hd] at hq
      obtain ⟨h0, hc⟩ := okRest_cons q c l hq
      have hemp : q.toList.isEmpty = false := by rw [Lib.toList_data, hq]; rfl
      have hco := fun W => containsOk q[0].toNat W (UInt8.toNat_lt _)
      have hok : Pl.okRest (s.data.toList.drop f.data.toList.length) = (q[0].toNat == 47 || q[0].toNat == 63 || q[0].toNat == 35) := by
        rw [hd, hc]
        show (c == 47 || c == 63 || c == 35) = _
        have e : ∀ d : UInt8, (c == d) = (c.toNat == d.toNat) := fun d => by
          rw [Bool.eq_iff_iff, beq_iff_eq, beq_iff_eq]
          exact UInt8.toNat_inj.symm
        rw [e, e, e]
        rfl
      have l0 : (0 : Int) < (q.size : Int) := by omega
      have hw32 : wrap32 (q[0].toNat : Int) = (q[0].toNat : Int) := by have := UInt8.toNat_lt q[0]; unfold wrap32; omega
      rw [← hok] at hco
      cases hb : Pl.okRest (s.data.toList.drop f.data.toList.length)
      · rw [hb] at hco
        have HCo := hide hco
        have HR := hide (rb_bad f.data.toList t.data.toList s.data.toList hb).symm
        clear hp hq hd hco hok hb hc
        go_enter Try.func27, Try.ntmps27
        go_wp2_with fail
        refine (HC.out _).mono ?_
        rintro e w1 ⟨rfl, hw⟩
        subst hw
        go_wp2_with fail
        rw [hw32]
        refine (HCo.out _).mono ?_
        rintro e w1 ⟨rfl, hb1⟩
        have HB1 := hide hb1
        clear hb1
        go_wp2
        go_ret
        exact rb_close HR.out HB1.out
      · rw [hb] at hco
        have HCo := hide hco
        have HR := hide (rb_ok f.data.toList t.data.toList s.data.toList hp hb).symm
        have HQ := hide hq
        have HD := hide hd
        clear hp hq hd hco hok hb hc
        go_enter Try.func27, Try.ntmps27
        go_wp2_with fail
        refine (HC.out _).mono ?_
        rintro e w1 ⟨rfl, hw⟩
        subst hw
        go_wp2_with fail
        rw [hw32]
        refine (HCo.out _).mono ?_
        rintro e w1 ⟨rfl, hb1⟩
        have HB1 := hide hb1
        clear hb1
        go_wp2
        go_ret
        exact rb_close (by rw [← HR.out, HD.out, ← HQ.out]; simp [ByteArray.data_append]) HB1.out
end Go.Proofs.Qxb6601067a

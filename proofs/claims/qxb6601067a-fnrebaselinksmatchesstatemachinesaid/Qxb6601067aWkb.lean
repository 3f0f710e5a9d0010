import Derived.Test.Qxb6601067aWka
namespace Go.Proofs.Qxb6601067a
open Go.RowKit

theorem decode_cont (s : ByteArray) (pos k : Nat) (h1 : 1 ≤ k) (hk : k < (Utf8.decode s pos).2) : pos + k < s.size ∧ 128 ≤ (s.get! (pos + k)).toNat := by
  revert hk
  simp only [Utf8.decode]
  repeat' split
  all_goals intro hk
  all_goals simp only [Bool.and_eq_true, decide_eq_true_eq, beq_iff_eq] at *
  · omega
  · obtain rfl : k = 1 := by omega
    constructor <;> omega
  · omega
  · rcases (show k = 1 ∨ k = 2 by omega) with rfl | rfl
    all_goals constructor <;> omega
  · omega
  · rcases (show k = 1 ∨ k = 2 ∨ k = 3 by omega) with rfl | rfl | rfl
    all_goals constructor <;> omega
  · omega
  · omega

theorem get_bang (s : ByteArray) (i : Nat) (h : i < s.size) : s.get! i = s[i] := get_at s i h
theorem at_list (s : ByteArray) (i : Nat) (h : i < s.size) : s.data.toList[i]? = some s[i] := Lib.data_getElem? s i h

/-- What is looked for. -/
def opens : ByteArray := ⟨#[60, 34]⟩
theorem opens_asc : Asc opens := by intro b hb; revert b; decide
theorem opens_in (x : UInt8) : (opens.data.toList).contains x = (x == 60 || x == 34) := by
  show [60, 34].contains x = _
  simp [List.contains, List.elem]
  cases h1 : x == 60 <;> cases h2 : x == 34 <;> rfl

theorem noAny_step {s : ByteArray} {i n : Nat} (h : Lib.NoAny s.data.toList opens.data.toList i) (hn : ∀ k, k < n → ∃ hk : i + k < s.size, 128 ≤ s[i + k].toNat) : Lib.NoAny s.data.toList opens.data.toList (i + n) := by
  intro j b hj hb
  rcases Nat.lt_or_ge j i with k | k
  · exact h j b k hb
  · obtain ⟨hk, hx⟩ := hn (j - i) (by omega)
    simp only [show i + (j - i) = j by omega] at hk hx
    rw [at_list s j hk] at hb
    have e := Option.some.inj hb
    rw [opens_in]
    rw [e] at hx
    have : b ≠ 60 := fun k => by subst k; revert hx; decide
    have : b ≠ 34 := fun k => by subst k; revert hx; decide
    simp_all

set_option maxRecDepth 100000 in
set_option maxHeartbeats 2000000 in
theorem indexAny_short (s : ByteArray) (w : World) (h8 : s.size ≤ 8) :
    Calls Try.prog 25 #[.string s, .string opens] w fun e w' => e = .returned (.int .i64 (Lib.indexAny s.data.toList opens.data.toList)) ∧ Below w.heap.size w w' := by
  have h8z : decide ((8 : Int) < (s.size : Int)) = false := decide_eq_false (by omega)
  have hemp : opens.toList.isEmpty = false := by rw [Lib.toList_data]; rfl
  have hsz : opens.size = 2 := by decide
  have HAs : Hid (Asc opens) := opens_asc
  have HOin := hide opens_in
  have hos : opens.size ≤ 100 := by decide
  have hcon := fun x => Lib.contains_iff_indexByte opens.data.toList x
  have HCon := hide hcon
  clear hcon
  have HN0 : Hid (Lib.NoAny s.data.toList opens.data.toList 0) := Lib.NoAny.zero _ _
  have HStep := hide (fun i n => @noAny_step s i n)
  generalize hO : opens = O at *
  have HO := hide hO
  clear hO
  go_enter Try.func25, Try.ntmps25
  go_wp2_with (go_at_call 33; refine (Try.strings_shouldUseASCIISet _ _).mono ?_; rintro e w' ⟨rfl, hw⟩; rw [hw, h8z])
  go_loopg [9, 10] s.size (fun g _ _ wx => ∃ i : Nat, i ≤ s.size ∧ s.size - i ≤ g ∧ wx.heap[w.heap.size]? = some (.stringIter s i) ∧ Below w.heap.size w wx ∧ Lib.NoAny s.data.toList O.data.toList i)
  case atStart => exact ⟨0, by omega, by omega, World.iter_heap _ _ _, (Below.refl _ _).alloc (Nat.le_refl _) _, HN0.out⟩
  case round =>
    obtain ⟨i, hi, hig, hit, hbel, hno⟩ := hrel
    have HN := hide hno
    have HB := hide hbel
    clear hno hbel
    by_cases hlt : i < s.size
    · obtain ⟨g, rfl⟩ : ∃ g, gk = g + 1 := ⟨gk - 1, by omega⟩
      have Hx := hide (at_list s i hlt)
      have hkl : w.heap.size < wr.heap.size := (Array.getElem?_eq_some_iff.1 hit).1
      by_cases hx : s[i].toNat < 128
      · have hnx := fun ty => Lib.run_next_ascii_at (P := Try.prog) _ w.heap.size s i ty hit hlt hx
        have HI2 := hide (Lib.iterAt_heap _ w.heap.size s i (i + 1) hit)
        have HB2 := hide (Lib.below_iterAt HB.out (Nat.le_refl _) s (i + 1))
        have hback : ((s[i].toNat : Int)).toNat.toUInt8 = s[i] := by simp
        have hcx := HCon.out s[i]
        cases hin : O.data.toList.contains s[i]
        · rw [hin] at hcx
          have hlt0 : ¬ ((0 : Int) ≤ Lib.indexByte O.data.toList s[i]) := of_decide_eq_false hcx.symm
          have HN2 := hide (Lib.NoAny.succ HN.out Hx.out hin)
          clear hcx hin hit
          go_wp2_with (go_at_call 32; refine (Try.strings_IndexRune_ascii _ _ _ (by omega) (by omega)).mono ?_; rintro e w' ⟨rfl, hw⟩; rw [hw, hback])
          go_roundg g
          case measure => omega
          case rel => exact ⟨i + 1, by omega, by omega, HI2.out, HB2.out, HN2.out⟩
        · rw [hin] at hcx
          have hge : (0 : Int) ≤ Lib.indexByte O.data.toList s[i] := of_decide_eq_true hcx.symm
          have HN2 := hide (Lib.indexAny_hit HN.out Hx.out hin)
          clear hcx hin hit
          go_wp2_with (go_at_call 32; refine (Try.strings_IndexRune_ascii _ _ _ (by omega) (by omega)).mono ?_; rintro e w' ⟨rfl, hw⟩; rw [hw, hback])
          go_ret
          exact ⟨by rw [HN2.out]; rfl, HB2.out⟩
      · have hx2 : 128 ≤ s[i].toNat := by omega
        obtain ⟨d1, d2⟩ := decode_high s i hlt hx2
        have hnx := fun ty => Lib.run_next_any_at (P := Try.prog) _ w.heap.size s i ty hit hlt
        have hcont := decode_cont s i
        generalize (Utf8.decode s i).1 = r at *
        generalize (Utf8.decode s i).2 = n at *
        have hall : ∀ k, k < n → ∃ hk : i + k < s.size, 128 ≤ s[i + k].toNat := by
          intro k hk
          by_cases k0 : k = 0
          · subst k0; exact ⟨hlt, hx2⟩
          · obtain ⟨c1, c2⟩ := hcont k (by omega) hk
            rw [get_bang s (i + k) c1] at c2
            exact ⟨c1, c2⟩
        have hin : i + n ≤ s.size := by
          obtain ⟨hk, _⟩ := hall (n - 1) (by omega)
          omega
        have HN2 := hide (HStep.out i n HN.out hall)
        have HI2 := hide (Lib.iterAt_heap _ w.heap.size s i (i + n) hit)
        have HB2 := hide (Lib.below_iterAt HB.out (Nat.le_refl _) s (i + n))
        have hsz2 : (wr.iterAt w.heap.size s (i + n)).heap.size = wr.heap.size := Lib.iterAt_size _ _ _ _
        clear hcont hall hit
        go_wp2_with fail
        refine (indexRune_high O (r : Int) _ (by omega) HAs.out hos).mono ?_
        rintro e w3 ⟨rfl, hb3⟩
        rw [hsz2] at hb3
        have HI3 : Hid (w3.heap[w.heap.size]? = some (.stringIter s (i + n))) := by show _ = _; rw [hb3.block _ hkl]; exact HI2.out
        have HB3 := hide (HB2.out.trans (hb3.mono (by omega)))
        clear hb3
        go_wp2
        go_roundg g
        case measure => omega
        case rel => exact ⟨i + n, by omega, by omega, HI3.out, HB3.out, HN2.out⟩
    · obtain rfl : i = s.size := by omega
      have hnx := fun ty => Lib.run_next_end_at (P := Try.prog) _ w.heap.size s s.size ty hit (by omega)
      clear hit
      go_wp2
      go_ret
      exact ⟨by rw [Lib.indexAny_none (by rw [← Lib.size_eq]; exact HN.out)]; rfl, HB.out⟩
end Go.Proofs.Qxb6601067a

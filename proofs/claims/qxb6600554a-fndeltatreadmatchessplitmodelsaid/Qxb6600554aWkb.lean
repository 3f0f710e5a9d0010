import Derived.Test.Qxb6600554aWka
import Derived.Test.Qxb6600554aShelf
import Derived.WalkMore
import Derived.Deep.RegionWith
namespace Go.Proofs.Qxb6600554a
open Go.RowKit

theorem indexByte_high (l : List UInt8) (c : UInt8) (h : ∀ b ∈ l, b.toNat < 128) (hc : 128 ≤ c.toNat) : Lib.indexByte l c = -1 := by
  induction l with
  | nil => rfl
  | cons b l ih =>
    have hb := h b (by simp)
    have e : (b == c) = false := by
      rw [beq_eq_false_iff_ne]
      intro e
      rw [e] at hb
      omega
    rw [Lib.indexByte, if_neg (by simp [e]), ih (fun x hx => h x (by simp [hx]))]
    rfl

/-- All bytes are ASCII. -/
def Asc (s : ByteArray) : Prop := ∀ b ∈ s.data.toList, b.toNat < 128
theorem Asc.extract {s : ByteArray} (h : Asc s) (i j : Nat) : Asc (s.extract i j) := by
  intro b hb
  rw [Lib.extract_data] at hb
  exact h b (List.mem_of_mem_drop (List.mem_of_mem_take hb))
theorem Asc.at {s : ByteArray} (h : Asc s) (i : Nat) (hi : i < s.size) : s[i].toNat < 128 := h _ (by
  have : s[i] = s.data.toList[i]'(by simpa using hi) := rfl
  rw [this]
  exact List.getElem_mem _)

theorem indexByte49 (s : ByteArray) (c : UInt8) (w : World) (h : Asc s) (hc : 128 ≤ c.toNat) : Calls Try.prog 49 #[.string s, .int .u8 (c.toNat : Int)] w fun e w' => e = .returned (.int .i64 (-1)) ∧ w' = w :=
  (Try.strings_IndexByte s (c.toNat : Int) w).mono (by
    rintro e w' ⟨rfl, rfl⟩
    refine ⟨?_, rfl⟩
    rw [show ((c.toNat : Int).toNat.toUInt8) = c by simp, indexByte_high _ _ h hc])

set_option maxRecDepth 100000 in
set_option maxHeartbeats 1000000 in
theorem indexRune_high (s : ByteArray) (r : Int) (w : World) (h0 : 128 ≤ r) (h1 : r ≤ 255) (ha : Asc s) (_hs : s.size ≤ 100) :
    Calls Try.prog 54 #[.string s, .int .i32 r] w fun e w' => e = .returned (.int .i64 (-1)) ∧ ∃ n, w' = w.drewN n := by
  have e1 : ((r == 65533) = false) := beq_eq_false_iff_ne.2 (by omega)
  obtain ⟨f1, f2, f3⟩ := encode_facts r (by simp [Utf8.valid]; omega) h0
  generalize hE : Utf8.encode r = E at f1 f2 f3
  have HE := hide hE
  clear hE
  obtain ⟨m, hm⟩ : ∃ m, E.size = m + 1 := ⟨E.size - 1, by omega⟩
  have hmE : m < E.size := by omega
  have hlast : 128 ≤ E[m].toNat := by
    have := f3 (by omega)
    simp only [show E.size - 1 = m by omega] at this
    exact this
  clear f3
  go_enter Try.func54, Try.ntmps54
  go_wp2_with fail
  refine (Try.utf8_ValidRune r w).mono ?_
  rintro e w' ⟨rfl, hw⟩
  subst hw
  rw [show Lib.validRune r = true by unfold Lib.validRune; simp; omega]
  go_wp2_with fail
  go_step3
  have hcv : ∀ W, (convert 21 9 (.int .i32 r)).run Try.prog W = .ok (.string E) W := fun W => by
    rw [run_convert_int_string W 21 9 .i32 r (by kernel_rfl) Try.underlying9, HE.out]
  go_wp2_with fail
  refine wp_loop_rounds 1 ?_
  rw [rounds_succ]
  by_cases hc : m < s.size
  · have q1 : (m : Int) < (s.size : Int) := by omega
    have hsl := ha.at m hc
    have hne : ((s[m].toNat : Int) != (E[m].toNat : Int)) = true := by rw [bne_iff_ne]; omega
    have q4 : (m : Int) + 1 ≤ (s.size : Int) := by omega
    have q5 : (m : Int) < (m : Int) + 1 := by omega
    have q6 : (0 : Int) ≤ (m : Int) + 1 := by omega
    have hwr : IntKind.i64.wrap ((m : Int) + 1) = (m : Int) + 1 := by rw [IntKind.wrap_i64]; omega
    go_wp2_with fail
    go_step3
    go_wp2_with fail
    go_quiet (fail)
    go_wp2_with fail
    go_region_with (go_at_call 49; refine (indexByte49 _ _ _ (ha.extract _ _) hlast).mono ?_; rintro e w1 ⟨rfl, hw⟩; subst hw)
    all_goals
      go_wp2
      simp only [Exit.inBlock, Exit.then, Exit.noGoto_ret]
      go_ret
      exact ⟨rfl, _, rfl⟩
  · have q1 : ¬ ((m : Int) < (s.size : Int)) := by omega
    go_wp2
    go_ret
    exact ⟨rfl, 0, rfl⟩

set_option maxRecDepth 100000 in
set_option maxHeartbeats 400000 in
theorem contains_high (s : ByteArray) (r : Int) (w : World) (h0 : 128 ≤ r) (h1 : r ≤ 255) (ha : Asc s) (hs : s.size ≤ 100) :
    Calls Try.prog 52 #[.string s, .int .i32 r] w fun e w' => e = .returned (.bool false) ∧ ∃ n, w' = w.drewN n := by
  go_enter Try.func52, Try.ntmps52
  go_wp2_with fail
  refine (indexRune_high s r w h0 h1 ha hs).mono ?_
  rintro e w1 ⟨rfl, n, rfl⟩
  go_wp2
  go_ret
  exact ⟨rfl, n, rfl⟩

theorem st_fin : ∀ c : Fin 128, decide (0 ≤ Lib.indexByte [32, 9, 10] ((c.val : Int).toNat.toUInt8)) = Pl.isSt c.val := by decide +kernel
theorem sp_fin : ∀ c : Fin 128, decide (0 ≤ Lib.indexByte [32, 9, 10, 11, 12, 13] ((c.val : Int).toNat.toUInt8)) = Pl.isSp c.val := by decide +kernel

theorem containsSt (c : Nat) (w : World) (hc : c < 256) : Calls Try.prog 52 #[.string ⟨#[32, 9, 10]⟩, .int .i32 (c : Int)] w fun e w' => e = .returned (.bool (Pl.isSt c)) ∧ ∃ n, w' = w.drewN n := by
  by_cases h : c < 128
  · refine (Try.strings_ContainsRune_ascii ⟨#[32, 9, 10]⟩ (c : Int) w (by omega) (by omega)).mono ?_
    rintro e w' ⟨rfl, rfl⟩
    refine ⟨?_, 0, rfl⟩
    rw [← st_fin ⟨c, h⟩]
  · have e : Pl.isSt c = false := by
      simp only [Pl.isSt, Bool.or_eq_false_iff, beq_eq_false_iff_ne]
      omega
    rw [e]
    exact contains_high _ _ w (by omega) (by omega) (by intro b hb; revert b; decide) (by decide)

theorem containsSp (c : Nat) (w : World) (hc : c < 256) : Calls Try.prog 52 #[.string ⟨#[32, 9, 10, 11, 12, 13]⟩, .int .i32 (c : Int)] w fun e w' => e = .returned (.bool (Pl.isSp c)) ∧ ∃ n, w' = w.drewN n := by
  by_cases h : c < 128
  · refine (Try.strings_ContainsRune_ascii ⟨#[32, 9, 10, 11, 12, 13]⟩ (c : Int) w (by omega) (by omega)).mono ?_
    rintro e w' ⟨rfl, rfl⟩
    refine ⟨?_, 0, rfl⟩
    rw [← sp_fin ⟨c, h⟩]
  · have e : Pl.isSp c = false := by
      simp only [Pl.isSp, Bool.or_eq_false_iff, beq_eq_false_iff_ne]
      omega
    rw [e]
    exact contains_high _ _ w (by omega) (by omega) (by intro b hb; revert b; decide) (by decide)
end Go.Proofs.Qxb6600554a

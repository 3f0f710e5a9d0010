import Derived.Test.Qxb6601067aRows
import Derived.Test.Qxb6601067aPlain
import Derived.Test.Qxb6601067aShelfB
import Derived.WalkKit
import Derived.WalkSpells
import Derived.WalkMore
import Derived.WalkLawsBesides
import Derived.Deep.QuietTactic
import Derived.BigQuiet
import Derived.RegionTactic
import Derived.Deep.RegionWith
import Derived.Laws.RangeAny
import Derived.Lib.OthersKept
import Derived.Lib.IndexBytes
namespace Go.Proofs.Qxb6601067a
open Go.RowKit

theorem hide {p : Prop} (h : p) : Hid p := h
theorem below_drewN {B : Nat} {a w : World} (h : Below B a w) (n : Nat) : Below B a (w.drewN n) := ⟨h.os, h.tape, h.output, h.size, h.block⟩

theorem indexByte_high (l : List UInt8) (c : UInt8) (h : ∀ b ∈ l, b.toNat < 128) (hc : 128 ≤ c.toNat) : Lib.indexByte l c = -1 := by
  induction l with
  | nil => rfl
  | cons b l ih =>
    have hb := h b (by simp)
    have e : (b == c) = false := by
      rw [beq_eq_false_iff_ne]
      intro e
      rw [e] at hb
      omega
    rw [Lib.indexByte, if_neg (by simp [e]), ih (fun x hx => h x (by simp [hx]))]
    rfl

/-- All bytes are ASCII. -/
def Asc (s : ByteArray) : Prop := ∀ b ∈ s.data.toList, b.toNat < 128
theorem Asc.extract {s : ByteArray} (h : Asc s) (i j : Nat) : Asc (s.extract i j) := by
  intro b hb
  rw [Lib.extract_data] at hb
  exact h b (List.mem_of_mem_drop (List.mem_of_mem_take hb))
theorem Asc.at {s : ByteArray} (h : Asc s) (i : Nat) (hi : i < s.size) : s[i].toNat < 128 := h _ (by
  have : s[i] = s.data.toList[i]'(by simpa using hi) := rfl
  rw [this]
  exact List.getElem_mem _)

theorem indexByte30 (s : ByteArray) (c : UInt8) (w : World) (h : Asc s) (hc : 128 ≤ c.toNat) : Calls Try.prog 30 #[.string s, .int .u8 (c.toNat : Int)] w fun e w' => e = .returned (.int .i64 (-1)) ∧ w' = w :=
  (Try.strings_IndexByte s (c.toNat : Int) w).mono (by
    rintro e w' ⟨rfl, rfl⟩
    refine ⟨?_, rfl⟩
    rw [show ((c.toNat : Int).toNat.toUInt8) = c by simp, indexByte_high _ _ h hc])

set_option maxRecDepth 100000 in
set_option maxHeartbeats 2000000 in
theorem indexRune_valid (s : ByteArray) (r : Int) (w : World) (h0 : 128 ≤ r) (hv : Lib.validRune r = true) (hne : r ≠ 65533) (ha : Asc s) (_hs : s.size ≤ 100) :
    Calls Try.prog 32 #[.string s, .int .i32 r] w fun e w' => e = .returned (.int .i64 (-1)) ∧ Below w.heap.size w w' := by
  have e1 : ((r == 65533) = false) := beq_eq_false_iff_ne.2 hne
  have hvv : Utf8.valid r = true := by
    unfold Lib.validRune at hv
    simp only [decide_eq_true_eq] at hv
    simp [Utf8.valid]
    omega
  obtain ⟨f1, f2, f3⟩ := encode_facts r hvv h0
  generalize hE : Utf8.encode r = E at f1 f2 f3
  have HE := hide hE
  have HV := hide hv
  clear hE hv hvv hne
  obtain ⟨m, hm⟩ : ∃ m, E.size = m + 1 := ⟨E.size - 1, by omega⟩
  have hmE : m < E.size := by omega
  have hlast : 128 ≤ E[m].toNat := by
    have := f3 (by omega)
    simp only [show E.size - 1 = m by omega] at this
    exact this
  clear f3
  go_enter Try.func32, Try.ntmps32
  go_wp2_with fail
  refine (Try.utf8_ValidRune r w).mono ?_
  rintro e w' ⟨rfl, hw⟩
  subst hw
  rw [HV.out]
  go_wp2_with fail
  go_step3
  have hcv : ∀ W, (convert 21 9 (.int .i32 r)).run Try.prog W = .ok (.string E) W := fun W => by
    rw [run_convert_int_string W 21 9 .i32 r (by kernel_rfl) Try.underlying9, HE.out]
  go_wp2_with fail
  refine wp_loop_rounds 1 ?_
  rw [rounds_succ]
  by_cases hc : m < s.size
  · have q1 : (m : Int) < (s.size : Int) := by omega
    have hsl := ha.at m hc
    have hne : ((s[m].toNat : Int) != (E[m].toNat : Int)) = true := by rw [bne_iff_ne]; omega
    have q4 : (m : Int) + 1 ≤ (s.size : Int) := by omega
    have q5 : (m : Int) < (m : Int) + 1 := by omega
    have q6 : (0 : Int) ≤ (m : Int) + 1 := by omega
    have hwr : IntKind.i64.wrap ((m : Int) + 1) = (m : Int) + 1 := by rw [IntKind.wrap_i64]; omega
    go_wp2_with fail
    go_step3
    go_wp2_with fail
    go_quiet (fail)
    go_wp2_with fail
    go_region_with (go_at_call 30; refine (indexByte30 _ _ _ (ha.extract _ _) hlast).mono ?_; rintro e w1 ⟨rfl, hw⟩; subst hw)
    all_goals
      go_wp2
      simp only [Exit.inBlock, Exit.then, Exit.noGoto_ret]
      go_ret
      exact ⟨rfl, below_drewN (Below.refl _ _) _⟩
  · have q1 : ¬ ((m : Int) < (s.size : Int)) := by omega
    go_wp2
    go_ret
    exact ⟨rfl, Below.refl _ _⟩

set_option maxRecDepth 100000 in
set_option maxHeartbeats 1000000 in
theorem indexRune_bad (s : ByteArray) (r : Int) (w : World) (h0 : 128 ≤ r) (hv : Lib.validRune r = false) (hne : r ≠ 65533) :
    Calls Try.prog 32 #[.string s, .int .i32 r] w fun e w' => e = .returned (.int .i64 (-1)) ∧ Below w.heap.size w w' := by
  have e1 : ((r == 65533) = false) := beq_eq_false_iff_ne.2 hne
  have HV := hide hv
  clear hv hne
  go_enter Try.func32, Try.ntmps32
  go_wp2_with fail
  refine (Try.utf8_ValidRune r w).mono ?_
  rintro e w' ⟨rfl, hw⟩
  subst hw
  rw [HV.out]
  go_wp2
  go_ret
  exact ⟨rfl, Below.refl _ _⟩

set_option maxRecDepth 100000 in
set_option maxHeartbeats 1000000 in
theorem indexRune_err (s : ByteArray) (w : World) (ha : Asc s) :
    Calls Try.prog 32 #[.string s, .int .i32 65533] w fun e w' => e = .returned (.int .i64 (-1)) ∧ Below w.heap.size w w' := by
  have HA := hide ha
  clear ha
  go_enter Try.func32, Try.ntmps32
  go_wp2
  go_loopg [5, 6] s.size (fun g _ _ wx => ∃ i : Nat, i + g = s.size ∧ wx = w.iter s i)
  case atStart => exact ⟨0, by omega, rfl⟩
  case round =>
    obtain ⟨i, hig, rfl⟩ := hrel
    cases gk with
    | zero =>
      obtain rfl : i = s.size := by omega
      have hnx := run_next_end (P := Try.prog) w s s.size
      go_wp2
      go_ret
      exact ⟨rfl, (Below.refl _ _).alloc (Nat.le_refl _) _⟩
    | succ g =>
      have hi : i < s.size := by omega
      have hx := HA.out.at i hi
      have hnx := fun ty => run_next_ascii (P := Try.prog) w s i ty hi hx
      have e2 : (((s[i].toNat : Int) == 65533) = false) := beq_eq_false_iff_ne.2 (by omega)
      go_wp2
      go_roundg g
      case measure => omega
      case rel => exact ⟨i + 1, by omega, rfl⟩

theorem indexRune_high (s : ByteArray) (r : Int) (w : World) (h0 : 128 ≤ r) (ha : Asc s) (hs : s.size ≤ 100) :
    Calls Try.prog 32 #[.string s, .int .i32 r] w fun e w' => e = .returned (.int .i64 (-1)) ∧ Below w.heap.size w w' := by
  by_cases hne : r = 65533
  · subst hne; exact indexRune_err s w ha
  · cases hv : Lib.validRune r
    · exact indexRune_bad s r w h0 hv hne
    · exact indexRune_valid s r w h0 hv hne ha hs

set_option maxRecDepth 100000 in
set_option maxHeartbeats 400000 in
theorem contains_high (s : ByteArray) (r : Int) (w : World) (h0 : 128 ≤ r) (h1 : r ≤ 255) (ha : Asc s) (hs : s.size ≤ 100) :
    Calls Try.prog 38 #[.string s, .int .i32 r] w fun e w' => e = .returned (.bool false) ∧ Below w.heap.size w w' := by
  have _ := h1
  go_enter Try.func38, Try.ntmps38
  go_wp2_with fail
  refine (indexRune_high s r w h0 ha hs).mono ?_
  rintro e w1 ⟨rfl, hb⟩
  have HB := hide hb
  clear hb
  go_wp2
  go_ret
  exact ⟨rfl, HB.out⟩

theorem ok_fin : ∀ c : Fin 128, decide (0 ≤ Lib.indexByte [47, 63, 35] ((c.val : Int).toNat.toUInt8)) = (c.val == 47 || c.val == 63 || c.val == 35) := by decide +kernel

theorem containsOk (c : Nat) (w : World) (hc : c < 256) : Calls Try.prog 38 #[.string ⟨#[47, 63, 35]⟩, .int .i32 (c : Int)] w fun e w' => e = .returned (.bool (c == 47 || c == 63 || c == 35)) ∧ Below w.heap.size w w' := by
  by_cases h : c < 128
  · refine (Try.strings_ContainsRune_ascii ⟨#[47, 63, 35]⟩ (c : Int) w (by omega) (by omega)).mono ?_
    rintro e w' ⟨rfl, rfl⟩
    refine ⟨?_, Below.refl _ _⟩
    rw [← ok_fin ⟨c, h⟩]
  · have e : (c == 47 || c == 63 || c == 35) = false := by
      simp only [Bool.or_eq_false_iff, beq_eq_false_iff_ne]
      omega
    rw [e]
    exact contains_high _ _ w (by omega) (by omega) (by intro b hb; revert b; decide) (by decide)
end Go.Proofs.Qxb6601067a

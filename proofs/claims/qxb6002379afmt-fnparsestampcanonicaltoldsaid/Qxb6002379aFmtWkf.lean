import Derived.Test.Qxb6002379aFmtWke
namespace Go.Proofs.Qxb6002379aFmt
open Go.RowKit
attribute [local go_sem ↓] Go.wp_at_zero Go.wp_at_succ

theorem text_eq (s nm : ByteArray) (t : Nat) (h : s.data.toList = Lib.decDigits t ++ 32 :: nm.data.toList) : s = dec t ++ ⟨#[32]⟩ ++ nm := by
  apply ByteArray.ext
  apply Array.toList_inj.1
  rw [h]
  simp [dec]

set_option maxRecDepth 100000 in
set_option maxHeartbeats 800000 in
theorem law_long (s : ByteArray) (w : World) (hs : s.size ≤ maxLen) (h : 65536 < s.size) : Calls Tryf.prog 4 #[.string s] w fun e w' => e = .returned (.bool true) ∧ Below w.heap.size w w' := by
  unfold maxLen at hs
  by_cases h20 : 1048576 < s.size
  · have e1 : (1048576 : Int) < (s.size : Int) := by omega
    go_enter Tryf.func4, Tryf.ntmps4
    go_wp2
    go_ret
    exact ⟨rfl, Below.refl _ _⟩
  · have e1 : (s.size : Int) ≤ 1048576 := by omega
    have e2 : (65536 : Int) < (s.size : Int) := by omega
    go_enter Tryf.func4, Tryf.ntmps4
    go_wp2
    go_ret
    exact ⟨rfl, Below.refl _ _⟩

theorem itoa8 (t : Nat) (w : World) (ht : t < 18446744073709551616) : Calls Tryf.prog 8 #[.int .u64 t] w fun e w' => e = .returned (.string (dec t)) ∧ Below w.heap.size w w' :=
  (itoa_any t w ht).mono (by
    rintro e w' ⟨rfl, arr, rfl⟩
    exact ⟨rfl, (Below.refl _ _).alloc (Nat.le_refl _) _⟩)

set_option maxRecDepth 100000 in
set_option maxHeartbeats 400000 in
theorem bytes11 (s : ByteArray) (w : World) (h : s.size ≤ 65536) : Calls Tryf.prog 11 #[.string s] w fun e w' => e = .returned (.bool true) ∧ w = w' := by
  have e1 : (s.size : Int) ≤ 65536 := by omega
  go_enter Tryf.func11, Tryf.ntmps11
  go_wp2
  go_ret
  exact ⟨rfl, rfl⟩

set_option maxRecDepth 100000 in
set_option maxHeartbeats 800000 in
theorem law_any (s : ByteArray) (w : World) (h : s.size ≤ 65536) (htab : ∀ w', Below w.heap.size w w' → Lib.TabIs Tryf.prog w' tabName .u64 Lib.pow10Tab) : Calls Tryf.prog 4 #[.string s] w fun e w' => e = .returned (.bool true) ∧ Below w.heap.size w w' := by
  have HT := hide htab
  clear htab
  have e1 : (s.size : Int) ≤ 65536 := by omega
  go_enter Tryf.func4, Tryf.ntmps4
  go_wp2_with fail
  refine (bytes11 s w h).mono ?_
  rintro e w' ⟨rfl, rfl⟩
  go_wp2_with fail
  refine (stamp9 s w (by omega)).mono ?_
  rintro e w1 ⟨hb, ⟨T, p, rfl⟩ | ⟨t, nm, rfl, h1, h64, hn, hcat⟩⟩
  · have HB := hide hb
    clear hb
    go_wp2
    go_ret
    refine ⟨rfl, HB.out.alloc HB.out.size _⟩
  · obtain rfl := text_eq s nm t hcat
    have HB := hide hb
    have H64 := hide h64
    have HN := hide hn
    have hd := dec_size t h1 h64
    have hn200 := hn.2.1
    have ht0 : ((t : Int) == 0) = false := beq_eq_false_iff_ne.2 (by omega)
    clear hb h64 hn hcat h e1
    go_wp2_with fail
    refine (valid_any nm _ HN.out).mono ?_
    rintro e w2 ⟨rfl, hw⟩
    subst hw
    go_wp2_with fail
    have hb2 : Below w.heap.size w (w1.alloc (.cells #[.int .u64 (t : Int), .string nm] 27)) := HB.out.alloc HB.out.size _
    refine (format12 t nm (w1.alloc (.cells #[.int .u64 (t : Int), .string nm] 27)) h1 H64.out (by omega) (HT.out _ hb2)).mono ?_
    rintro e w2 ⟨rfl, hb3⟩
    have HB3 := hide (hb2.trans (hb3.mono (by have := HB.out.size; simp; omega)))
    have c0 : w2.cell? ⟨w1.heap.size, 0, none⟩ = some (.int .u64 (t : Int)) := by rw [hb3.cell (by simp)]; go_simp
    have c1 : w2.cell? ⟨w1.heap.size, 1, none⟩ = some (.string nm) := by rw [hb3.cell (by simp)]; go_simp
    have hz : w1.heap.size < w2.heap.size := by have := hb3.size; simp at this; omega
    clear hb2 hb3
    go_wp2_with fail
    have hn1 : ¬ (9223372036854775807 < (dec t).size + 1) := by omega
    have hn2 : ¬ (9223372036854775807 < (dec t).size + 1 + nm.size) := by omega
    have ha1 := add_run (dec t) ⟨#[32]⟩ (by have : (⟨#[32]⟩ : ByteArray).size = 1 := rfl; omega)
    have ha2 := add_run (dec t ++ ⟨#[32]⟩) nm (by have : (⟨#[32]⟩ : ByteArray).size = 1 := rfl; rw [ByteArray.size_append]; omega)
    go_region_held3 (fun w' => w'.cell? ⟨w1.heap.size, 0, none⟩ = some (.int .u64 (t : Int)) ∧ w'.cell? ⟨w1.heap.size, 1, none⟩ = some (.string nm))
      (first | (exact ⟨c0, c1⟩) | (refine ⟨?_, ?_⟩ <;> (rw [hb.cell (by exact hz)]; first | exact c0 | exact c1)))
      (first | (go_at_call 8; refine (itoa8 t _ H64.out).mono ?_; rintro e w3 ⟨rfl, hb⟩))
    go_wp2
    go_ret
    exact ⟨rfl, HB3.out.drew.trans (hb.mono HB3.out.size)⟩
end Go.Proofs.Qxb6002379aFmt

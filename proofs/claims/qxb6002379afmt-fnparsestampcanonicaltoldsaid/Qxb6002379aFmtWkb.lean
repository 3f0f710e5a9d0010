import Derived.Test.Qxb6002379aFmtWka
namespace Go.Proofs.Qxb6002379aFmt
open Go.RowKit

def bv (b : UInt8) : Value := .int .u8 (b.toNat : Int)

theorem bv_dg (t u j : Nat) (hu : t / 10 ^ j = u) : bv (Lib.dg t j) = .int .u8 (48 + (u : Int) % 10) := by
  unfold bv Lib.dg
  rw [hu, UInt8.toNat_ofNat']
  congr 1
  omega

theorem done_step (t u j : Nat) (arr : Array Value) (ha : arr.size = 20) (hj : j ≤ 19) (hu : t / 10 ^ j = u) (hd : ∀ m, m < j → arr[19 - m]? = some (bv (Lib.dg t m))) :
    ∀ m, m < j + 1 → (arr.setIfInBounds (20 - j - 1) (.int .u8 (48 + (u : Int) % 10)))[19 - m]? = some (bv (Lib.dg t m)) := by
  intro m hm
  rw [show 20 - j - 1 = 19 - j by omega]
  by_cases e : m = j
  · subst e
    rw [bv_dg t u m hu, Array.getElem?_setIfInBounds]
    simp
    omega
  · rw [Array.getElem?_setIfInBounds, if_neg (by omega)]
    exact hd m (by omega)

theorem nDigits_exit (t u j : Nat) (hu : t / 10 ^ j = u) (hn : j = 0 ∨ u ≠ 0) (hz : u / 10 = 0) : Lib.nDigits t = j + 1 := by
  have hp : 0 < 10 ^ j := Nat.pow_pos (by decide)
  have hdm := Nat.div_add_mod t (10 ^ j)
  have hml := Nat.mod_lt t hp
  rcases hn with h | h
  · subst h
    exact Lib.nDigits_small (by simp at hu; omega)
  · refine Lib.nDigits_unique j t ?_ ?_
    · rw [hu] at hdm
      have : 10 ^ j * 1 ≤ 10 ^ j * u := Nat.mul_le_mul_left _ (by omega)
      omega
    · rw [Nat.pow_succ]
      rw [hu] at hdm
      have : 10 ^ j * u ≤ 10 ^ j * 9 := Nat.mul_le_mul_left _ (by omega)
      omega

theorem Tryf.arr42 : Tryf.prog.arrayLen 42 = 20 := by kernel_rfl

theorem sl42 (b j : Nat) (hj : j ≤ 19) (W : World) : (Instr.sliceAt 42 (.pointer (some ⟨b, 0, none⟩)) (some (.int .i64 (20 - (j : Int) - 1))) none none).run Tryf.prog W = .ok (.slice (some ⟨b, 19 - j, none⟩) (j + 1) (j + 1)) W := by
  rw [run_sliceAt_array_l W 42 ⟨b, 0, none⟩ (by kernel_rfl) .i64 (20 - (j : Int) - 1) (by omega) (by rw [Tryf.arr42]; omega)]
  go_simp
  rw [if_neg (by omega), show 20 - j - 1 = 19 - j by omega]
  exact ⟨rfl, by omega⟩

theorem cv37 (b t j : Nat) (arr : Array Value) (W : World) (hsz : Lib.nDigits t = j + 1) (hj : j ≤ 19) (hW : ∀ i, W.cell? ⟨b, i, none⟩ = arr[i]?) (hd : ∀ m, m < j + 1 → arr[19 - m]? = some (bv (Lib.dg t m))) :
    (convert 37 9 (.slice (some ⟨b, 19 - j, none⟩) (j + 1) (j + 1))).run Tryf.prog W = .ok (.string ⟨(Lib.decDigits t).toArray⟩) W := by
  have h := run_convert_bytes_back (P := Tryf.prog) W 37 9 5 ⟨b, 19 - j, none⟩ (j + 1) (Lib.decDigits t) Tryf.underlying37 Tryf.underlying5 Tryf.underlying9 (fun i hi => by
    rw [Lib.decDigits_length, hsz] at hi
    rw [show (⟨b, 19 - j, none⟩ : Addr).add i = ⟨b, 19 - j + i, none⟩ from by simp [Addr.add]]
    rw [hW, show 19 - j + i = 19 - (j - i) by omega, hd (j - i) (by omega)]
    simp only [Lib.decDigits_eq, List.getElem_map, List.getElem_range, hsz]
    rw [show j + 1 - 1 - i = j - i by omega]
    rfl)
  rw [Lib.decDigits_length, hsz] at h
  exact h

set_option maxRecDepth 100000 in
set_option maxHeartbeats 400000 in
theorem itoa_any (t : Nat) (w : World) (ht : t < 18446744073709551616) :
    Calls Tryf.prog 8 #[.int .u64 t] w fun e w' => e = .returned (.string ⟨(Lib.decDigits t).toArray⟩) ∧ ∃ arr, w' = w.alloc (.cells arr 42) := by
  have HT := hide ht
  clear ht
  go_enter Tryf.func8, Tryf.ntmps8
  go_wp2
  go_loopw [0, 4] (fun u i wr => ∃ (j : Nat) (arr : Array Value), j ≤ 20 ∧ arr.size = 20 ∧ u = .int .u64 ((t / 10 ^ j : Nat) : Int) ∧ i = .int .i64 ((20 - j : Nat) : Int) ∧ (j = 0 ∨ t / 10 ^ j ≠ 0) ∧ (∀ m, m < j → arr[19 - m]? = some (bv (Lib.dg t m))) ∧ wr = w.alloc (.cells arr 42)) (fun u _ _ => (intOf u).toNat)
  case atStart => exact ⟨0, _, by omega, by simp, by simp, by simp, Or.inl rfl, fun m h => by omega, rfl⟩
  case round =>
    obtain ⟨j, arr, hj, ha, rfl, rfl, hnz, hdone, rfl⟩ := hrel
    have HD := hide hdone
    have HN := hide hnz
    clear hdone hnz
    by_cases h20 : j = 20
    · exfalso
      have h1 := HT.out
      have h2 := HN.out
      rw [h20] at h2
      omega
    · have hj19 : j ≤ 19 := by omega
      have hi : ((20 - j : Nat) : Int) = 20 - (j : Int) := by omega
      rw [hi]
      clear hi
      generalize hu : t / 10 ^ j = u at *
      have HU := hide hu
      clear hu
      have hub : (u : Int) ≤ 18446744073709551615 := by
        have h1 := HT.out
        have h2 := HU.out
        have : t / 10 ^ j ≤ t := Nat.div_le_self _ _
        omega
      obtain ⟨v0, hv0⟩ : ∃ v0, arr[20 - j - 1]? = some v0 := ⟨_, Array.getElem?_eq_getElem (by omega)⟩
      by_cases hz : u / 10 = 0
      · have ez : ((u : Int) / 10 == 0) = true := beq_iff_eq.2 (by omega)
        have hds := done_step t u j arr ha hj19 HU.out HD.out
        have hsl := sl42 w.heap.size j hj19
        have hcv := cv37 w.heap.size t j (arr.setIfInBounds (20 - j - 1) (.int .u8 (48 + (u : Int) % 10))) (w.alloc (.cells (arr.setIfInBounds (20 - j - 1) (.int .u8 (48 + (u : Int) % 10))) 42)) (nDigits_exit t u j HU.out HN.out hz) hj19 (fun i => by rw [World.cell?_alloc_new]) hds
        clear hds
        go_wp2
        go_ret
        exact ⟨rfl, _, rfl⟩
      · have ez : ((u : Int) / 10 == 0) = false := beq_eq_false_iff_ne.2 (by omega)
        go_wp2
        go_roundw
        case rel =>
          have h2 : t / 10 ^ (j + 1) = u / 10 := by rw [Nat.pow_succ, ← Nat.div_div_eq_div_mul, HU.out]
          exact ⟨j + 1, _, by omega, by simp [ha], by rw [h2]; rfl, by go_num, Or.inr (by rw [h2]; exact hz), done_step t u j arr ha hj19 HU.out HD.out, rfl⟩
        case measure => simp [intOf]; omega
end Go.Proofs.Qxb6002379aFmt

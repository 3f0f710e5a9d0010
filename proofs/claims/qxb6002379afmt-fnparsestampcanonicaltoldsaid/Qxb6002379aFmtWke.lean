import Derived.Test.Qxb6002379aFmtWkd
import Derived.Test.Qxb6002379aFmtShelf
import Derived.Lib.ItoaMem
import Derived.WalkSmall
import Derived.Lib.IndexLaws
import Derived.RegionTactic
import Derived.Lib.IndexBytes
import Derived.Deep.RegionHeld3
import Derived.Deep.DrawnRows
namespace Go.Proofs.Qxb6002379aFmt
open Go.RowKit Go.Sort Go.Lib

attribute [local go_sem ↓] Go.wp_at_zero Go.wp_at_succ
/-- The third listed variable's name. -/
def tabName : String := (Rows.fnParseStampCanonicalRow.laid[2]?.map (·.1)).getD ""

/-- The decimal numeral, as a string. -/
def dec (u : Nat) : ByteArray := ⟨(Lib.decDigits u).toArray⟩
theorem dec_size (u : Nat) (h1 : 1 ≤ u) (h2 : u < 18446744073709551616) : (dec u).size ≤ 20 := by
  have h : Lib.nDigits u ≤ 20 := by have := Lib.numDigits_eq u h1 h2; split at this <;> omega
  have e : (dec u).size = (Lib.decDigits u).length := by simp [dec, ByteArray.size]
  rw [e, Lib.decDigits_length]
  exact h

theorem add_run (a b : ByteArray) (h : a.size + b.size ≤ 9223372036854775807) (W : World) : (binOp .add 9 (.string a) (.string b)).run Tryf.prog W = .ok (.string (a ++ b)) W := by
  rw [binOp_string_add]
  exact run_string_add_sum W a b h

theorem holds24 (w : World) (T : TypeId) (nd : Nat) (hs : nd ≤ 24) : Holds (fun (b : UInt8) => Value.int .u8 (b.toNat : Int)) (w.alloc (.cells Lib.zeros24 T)) w.heap.size 0 (Array.replicate nd (0 : UInt8)) := fun j hj => by
  have hj' : j < nd := by simpa using hj
  refine ⟨?_, World.frozen?_alloc_new _ _ _ _⟩
  rw [World.cell?_alloc_new, Lib.zeros24_at _ (by omega), getElem!_pos _ j hj]
  simp

theorem fin0 (w : World) (o : Obj) (dk : Array UInt8) (k : Nat) : ∃ os, (putRow (fun (b : UInt8) => Value.int .u8 (b.toNat : Int)) (w.alloc o) w.heap.size 0 dk).drewN k = grow (w.drewN k) os := by
  rw [alloc_eq_grow]
  obtain ⟨os', _, e⟩ := putRow_grow_new (fun (b : UInt8) => Value.int .u8 (b.toNat : Int)) w #[o] w.heap.size 0 dk (Nat.le_refl _)
  exact ⟨os', by rw [e]; rfl⟩

theorem below_grow (w : World) (k : Nat) (os : Array Obj) : Below w.heap.size w (grow (w.drewN k) os) :=
  ⟨rfl, rfl, rfl, by show w.heap.size ≤ (w.heap ++ os).size; rw [Array.size_append]; omega, fun j hj => by show (w.heap ++ os)[j]? = w.heap[j]?; rw [Array.getElem?_append_left hj]⟩

theorem Tryf.arr65 : Tryf.prog.arrayLen 65 = 24 := by kernel_rfl
theorem sl65 (b n : Nat) (hn : n ≤ 24) (W : World) : (Instr.sliceAt 65 (.pointer (some ⟨b, 0, none⟩)) none (some (.int .i64 (n : Int))) none).run Tryf.prog W = .ok (.slice (some ⟨b, 0, none⟩) n 24) W := by
  rw [run_sliceAt_array_h W 65 ⟨b, 0, none⟩ (by kernel_rfl) .i64 (n : Int) (by omega) (by rw [Tryf.arr65]; omega)]
  go_simp

theorem numDigits_any (u : Nat) (h1 : 1 ≤ u) (h2 : u < 18446744073709551616) (w : World) (htab : Lib.TabIs Tryf.prog w tabName .u64 Lib.pow10Tab) :
    Calls Tryf.prog 43 #[.int .u64 u] w fun e w' => e = .returned (.int .i64 (Lib.nDigits u)) ∧ w' = w :=
  Any.internal_strconv_numDigits Tryf.laysM284 u h1 h2 w htab

set_option maxRecDepth 100000 in
set_option maxHeartbeats 800000 in
theorem format37 (u : Nat) (w : World) (h1 : 1 ≤ u) (h2 : u < 18446744073709551616) (htab : Lib.TabIs Tryf.prog w tabName .u64 Lib.pow10Tab) :
    Calls Tryf.prog 37 #[.int .u64 u, .int .i64 10] w fun e w' => e = .returned (.string (dec u)) ∧ Below w.heap.size w w' := by
  have H2 := hide h2
  clear h2
  by_cases hs : u < 100
  · have e1 : (u : Int) < 100 := by omega
    go_enter Tryf.func37, Tryf.ntmps37
    go_wp2_with fail
    refine (Tryf.internal_strconv_small u hs _).mono ?_
    rintro e w1 ⟨rfl, hw⟩
    subst hw
    go_wp2
    go_ret
    exact ⟨rfl, Below.refl _ _⟩
  · have e1 : (100 : Int) ≤ (u : Int) := by omega
    go_enter Tryf.func37, Tryf.ntmps37
    go_wp2_with fail
    have hnd20 : Lib.nDigits u ≤ 20 := by have := Lib.numDigits_eq u h1 H2.out; split at this <;> omega
    have hH0 := holds24 w 65 (Lib.nDigits u) (by omega)
    have hfmt := Tryf.internal_strconv_formatBase10 w.heap.size 0 24 u (Array.replicate (Lib.nDigits u) 0) (w.alloc (.cells Lib.zeros24 65)) hH0 (by rw [Array.size_replicate]; exact Lib.lt_pow_nDigits u) H2.out (by rw [Array.size_replicate]; omega)
    rw [Array.size_replicate] at hfmt
    have HH0 := hide hH0
    have HF := hide hfmt
    clear hH0 hfmt
    refine (numDigits_any u h1 H2.out _ (Lib.tabIs_alloc htab _)).mono ?_
    rintro e w1 ⟨rfl, hw⟩
    subst hw
    have HT := hide htab
    clear htab
    have hsl := sl65 w.heap.size (Lib.nDigits u) (by omega)
    go_wp2_with fail
    refine HF.out.mono ?_
    rintro e w2 ⟨rfl, k, v', dk, hw2, hF⟩
    have hcv : (convert 37 9 (.slice (some ⟨w.heap.size, 0, none⟩) (Lib.nDigits u) 24)).run Tryf.prog w2 = .ok (.string ⟨(Lib.decDigits u).toArray⟩) w2 := by
      have h := run_convert_bytes_back (P := Tryf.prog) w2 37 9 5 ⟨w.heap.size, 0, none⟩ 24 (Lib.decDigits u) Tryf.underlying37 Tryf.underlying5 Tryf.underlying9 (fun j hj => by
        rw [hw2, Lib.row_is_numeral hF j hj, Lib.add_plain, World.cell?_drewN]
        exact cell?_putRow (fun (b : UInt8) => Value.int .u8 (b.toNat : Int)) _ w.heap.size 0 _ dk HH0.out (by rw [hF.size, Array.size_replicate]) j (by rw [hF.size]; rw [Lib.decDigits_length] at hj; exact hj))
      rw [Lib.decDigits_length] at h
      exact h
    have HW := hide hw2
    clear hw2 hF
    go_wp2
    go_ret
    refine ⟨rfl, ?_⟩
    obtain ⟨os, eo⟩ := fin0 w (.cells Lib.zeros24 65) dk k
    rw [HW.out, eo]
    exact below_grow w k os

set_option maxRecDepth 100000 in
set_option maxHeartbeats 400000 in
theorem format35 (u : Nat) (w : World) (h1 : 1 ≤ u) (h2 : u < 18446744073709551616) (htab : Lib.TabIs Tryf.prog w tabName .u64 Lib.pow10Tab) :
    Calls Tryf.prog 35 #[.int .u64 u, .int .i64 10] w fun e w' => e = .returned (.string (dec u)) ∧ Below w.heap.size w w' := by
  have H2 := hide h2
  have HT := hide htab
  clear h2 htab
  go_enter Tryf.func35, Tryf.ntmps35
  go_wp2_with fail
  refine (format37 u w h1 H2.out HT.out).mono ?_
  rintro e w1 ⟨rfl, hb⟩
  go_wp2
  go_ret
  exact ⟨rfl, hb⟩

set_option maxRecDepth 100000 in
set_option maxHeartbeats 400000 in
theorem string25 (u : Nat) (w : World) (h1 : 1 ≤ u) (h2 : u < 18446744073709551616) (htab : Lib.TabIs Tryf.prog w tabName .u64 Lib.pow10Tab) :
    Calls Tryf.prog 25 #[.int .u64 u] w fun e w' => e = .returned (.string (dec u)) ∧ Below w.heap.size w w' := by
  have H2 := hide h2
  have HT := hide htab
  clear h2 htab
  go_enter Tryf.func25, Tryf.ntmps25
  go_wp2_with fail
  refine (format35 u w h1 H2.out HT.out).mono ?_
  rintro e w1 ⟨rfl, hb⟩
  go_wp2
  go_ret
  exact ⟨rfl, hb⟩

set_option maxRecDepth 100000 in
set_option maxHeartbeats 400000 in
theorem format12 (u : Nat) (nm : ByteArray) (w : World) (h1 : 1 ≤ u) (h2 : u < 18446744073709551616) (hn : nm.size ≤ 1048576) (htab : Lib.TabIs Tryf.prog w tabName .u64 Lib.pow10Tab) :
    Calls Tryf.prog 12 #[.agg #[.int .u64 u, .string nm]] w fun e w' => e = .returned (.string (dec u ++ ⟨#[32]⟩ ++ nm)) ∧ Below w.heap.size w w' := by
  have hd := dec_size u h1 h2
  have H2 := hide h2
  have HT := hide htab
  clear h2 htab
  go_enter Tryf.func12, Tryf.ntmps12
  go_wp2_with fail
  have hn1 : ¬ (9223372036854775807 < (dec u).size + 1) := by omega
  have hn2 : ¬ (9223372036854775807 < (dec u).size + 1 + nm.size) := by omega
  have ha1 := add_run (dec u) ⟨#[32]⟩ (by have : (⟨#[32]⟩ : ByteArray).size = 1 := rfl; omega)
  have ha2 := add_run (dec u ++ ⟨#[32]⟩) nm (by have : (⟨#[32]⟩ : ByteArray).size = 1 := rfl; rw [ByteArray.size_append]; omega)
  go_region_held3 (fun w' => w'.cell? ⟨w.heap.size, 0, none⟩ = some (.int .u64 (u : Int)) ∧ w'.cell? ⟨w.heap.size, 1, none⟩ = some (.string nm))
    (first | (simp [go_sem]; done) | (refine ⟨?_, ?_⟩ <;> (rw [hb.cell (by simp)]; go_simp)))
    (first | (go_at_call 25; refine (string25 u _ h1 H2.out (by exact Lib.tabIs_alloc HT.out _)).mono ?_; rintro e w1 ⟨rfl, hb⟩))
  go_wp2
  go_ret
  refine ⟨rfl, RowKit.Below.trans ?_ (hb.mono (B' := w.heap.size) (by simp))⟩
  exact ((RowKit.Below.refl _ _).alloc (Nat.le_refl _) _).drew

/-- Cut at one blank. -/
theorem cut30 (s : ByteArray) (w : World) (hs : s.size ≤ 1048576) : Calls Tryf.prog 30 #[.string s, .string ⟨#[32]⟩] w (CutSaid s w) := by
  go_enter Tryf.func30, Tryf.ntmps30
  go_wp2_with fail
  refine (Tryf.stringslite_Index_one s 32 w).mono ?_
  rintro e w1 ⟨rfl, hw⟩
  subst hw
  have hge := Lib.indexByte_ge s.data.toList 32
  by_cases hneg : Lib.indexByte s.data.toList 32 = -1
  · rw [hneg]
    go_wp2
    go_ret3
    exact ⟨RowKit.Below.refl _ _, s, ⟨#[]⟩, false, rfl, Nat.le_refl _, Nat.zero_le _, Or.inl rfl⟩
  · obtain ⟨i, hi⟩ : ∃ i : Nat, Lib.indexByte s.data.toList 32 = (i : Int) := ⟨(Lib.indexByte s.data.toList 32).toNat, by omega⟩
    obtain ⟨hat, _⟩ := Lib.indexByte_some hi
    obtain ⟨hlt0, hat0⟩ := List.getElem?_eq_some_iff.1 hat
    have hlt : i < s.size := by simpa using hlt0
    have hcat : s.data.toList = (s.extract 0 i).data.toList ++ 32 :: (s.extract (i + 1) s.size).data.toList := by
      rw [Lib.extract_data, Lib.extract_to_end, List.drop_zero, Nat.sub_zero]
      conv => lhs; rw [← List.take_append_drop i s.data.toList, List.drop_eq_getElem_cons hlt0, hat0]
    rw [hi]
    have HC := hide hcat
    clear hcat hat hat0 hneg hge hi
    have c1 : (i : Int) ≤ (s.size : Int) := by omega
    have c2 : (i : Int) + 1 ≤ (s.size : Int) := by omega
    go_wp2
    go_region
    go_wp2
    go_ret3
    exact ⟨(RowKit.Below.refl _ _).drew, s.extract 0 i, s.extract (i + 1) s.size, true, rfl, by rw [ByteArray.size_extract]; omega, by rw [ByteArray.size_extract]; omega, Or.inr HC.out⟩

theorem cut20 (s : ByteArray) (w : World) (hs : s.size ≤ 1048576) : Calls Tryf.prog 20 #[.string s, .string ⟨#[32]⟩] w (CutSaid s w) := by
  go_enter Tryf.func20, Tryf.ntmps20
  go_wp2_with fail
  refine (cut30 s w hs).mono ?_
  rintro e w1 ⟨hb, a, b, f, rfl, h1, h2, h3⟩
  have H3 := hide h3
  clear h3
  go_wp2
  go_ret3
  exact ⟨hb, a, b, f, rfl, h1, h2, H3.out⟩

theorem stamp9 (s : ByteArray) (w : World) (hs : s.size ≤ 1048576) : Calls Tryf.prog 9 #[.string s] w (Parsed s w) := stamp_any s w hs (fun w => cut20 s w hs)
end Go.Proofs.Qxb6002379aFmt

import Derived.Test.Qxb6002379aFmtWkc
namespace Go.Proofs.Qxb6002379aFmt
open Go.RowKit Go.Extern.Stop Go.Stop Go.Extern

/-- What strings.Cut at one blank hands back. -/
def CutSaid (s : ByteArray) (w : World) (e : Ending) (w' : World) : Prop :=
  Below w.heap.size w w' ∧ ∃ (a b : ByteArray) (f : Bool), e = .returned (.tuple #[.string a, .string b, .bool f]) ∧ a.size ≤ s.size ∧ b.size ≤ s.size ∧ (b.size = 0 ∨ s.data.toList = a.data.toList ++ 32 :: b.data.toList)

/-- What ParseStamp hands back. -/
def Parsed (s : ByteArray) (w : World) (e : Ending) (w' : World) : Prop :=
  Below w.heap.size w w' ∧ ((∃ T p, e = .returned (.tuple #[.agg #[.int .u64 0, .string ⟨#[]⟩], .iface T p])) ∨
    ∃ (t : Nat) (name : ByteArray), e = .returned (.tuple #[.agg #[.int .u64 t, .string name], .nilIface]) ∧ 1 ≤ t ∧ t < 18446744073709551616 ∧ Named name ∧ s.data.toList = Lib.decDigits t ++ 32 :: name.data.toList)

/-- The result's two cells in a later world. -/
structure Slot (B : Nat) (w w1 : World) : Prop where
  size : B + 1 ≤ w1.heap.size
  c0 : w1.cell? ⟨B, 0, none⟩ = some (.int .u64 0)
  c1 : w1.cell? ⟨B, 1, none⟩ = some (.string ⟨#[]⟩)
  z0 : w1.frozen? ⟨B, 0, none⟩ = false
  z1 : w1.frozen? ⟨B, 1, none⟩ = false
  below : Below B w w1

theorem Slot.first (w w1 : World) (hg : Below (w.alloc (.cells #[.int .u64 0, .string ⟨#[]⟩] 27)).heap.size (w.alloc (.cells #[.int .u64 0, .string ⟨#[]⟩] 27)) w1) : Slot w.heap.size w w1 :=
  ⟨by have := hg.size; simpa using this, by rw [hg.cell (by simp)]; go_simp, by rw [hg.cell (by simp)]; go_simp, by rw [hg.frozen (by simp)]; go_simp, by rw [hg.frozen (by simp)]; go_simp,
    ((Below.refl _ _).alloc (Nat.le_refl _) _).trans (hg.mono (by simp))⟩

theorem Slot.later {B : Nat} {w w1 w2 : World} (h : Slot B w w1) (hg : Below w1.heap.size w1 w2) : Slot B w w2 :=
  have hB : B < w1.heap.size := h.size
  ⟨Nat.le_trans h.size hg.size, by rw [hg.cell (by exact hB)]; exact h.c0, by rw [hg.cell (by exact hB)]; exact h.c1, by rw [hg.frozen (by exact hB)]; exact h.z0, by rw [hg.frozen (by exact hB)]; exact h.z1,
    h.below.trans (hg.mono (Nat.le_of_lt hB))⟩

set_option maxRecDepth 100000 in
set_option maxHeartbeats 800000 in
theorem stamp_any (s : ByteArray) (w : World) (hs : s.size ≤ 1048576) (hcut : ∀ w, Calls Tryf.prog 20 #[.string s, .string ⟨#[32]⟩] w (CutSaid s w)) : Calls Tryf.prog 9 #[.string s] w (Parsed s w) := by
  have HC := hide hcut
  clear hcut
  go_enter Tryf.func9, Tryf.ntmps9
  go_wp2_with fail
  refine (HC.out _).mono ?_
  rintro e w1 ⟨hg, a, b, f, rfl, ha, hb, hcat⟩
  have HS := hide (Slot.first w w1 hg)
  clear hg
  have HCat := hide hcat
  clear hcat
  go_wp2_with fail
  refine (parse_any a _ (by unfold maxLen; omega)).mono ?_
  rintro e w2 ⟨hw, hor⟩
  subst hw
  rcases hor with rfl | ⟨t, rfl, h1, h64, hdig⟩
  · go_wp2_with fail
    refine (clip_any s _ hs).mono ?_
    rintro e w1 ⟨⟨cs, rfl⟩, hw⟩
    subst hw
    go_wp2_with fail
    obtain ⟨t, ht⟩ := ef_plain2 f1 w1.heap.size (.iface 9 (.string cs)) (.iface 22 (.int .u64 18446744073709551615)) 113 100 (w1.alloc (.cells #[.iface 9 (.string cs), .iface 22 (.int .u64 18446744073709551615)] 20)) (by decide) (by decide) pr1 (by go_simp) (by go_simp) (op_str _ _) (op_u64 _ _)
    refine (Errorf_of f1 _ _ _ _ _ _ ht).mono ?_
    rintro e w3 ⟨rfl, hw3⟩
    have hS3 : Slot w.heap.size w w3 := HS.out.later (by rw [hw3]; exact (((Below.refl _ _).alloc (Nat.le_refl _) _).alloc (by simp) _).drew)
    obtain ⟨hz, c0, c1, z0, z1, hB⟩ := hS3
    have HB := hide hB
    clear ht hw3 hB
    go_wp2
    refine bodyPost_ret (v := .tuple #[.agg #[.int .u64 0, .string ⟨#[]⟩], .iface 58 (.pointer (some ⟨w1.heap.size + 1, 0, none⟩))]) (by simp [results, Tryf.results9, go_sem, c0, c1]) rfl ⟨?_, Or.inl ⟨_, _, rfl⟩⟩
    exact (HB.out.setCell (Nat.le_refl _) _).setCell (Nat.le_refl _) _
  · have HD := hide hdig
    have H64 := hide h64
    clear hdig h64
    go_wp2_with fail
    refine (check24 b _ (by omega)).mono ?_
    rintro e w3 ⟨hg, hor⟩
    have hS := HS.out.later hg
    clear hg
    rcases hor with ⟨rfl, hn⟩ | ⟨bk, x, rfl, hbk, hc⟩
    · have HN := hide hn
      clear hn
      obtain ⟨hz, c0, c1, z0, z1, hB⟩ := hS
      have HB := hide hB
      clear hB
      go_wp2
      refine bodyPost_ret (v := .tuple #[.agg #[.int .u64 (t : Int), .string b], .nilIface]) (by simp [results, Tryf.results9, go_sem, c0, c1]) rfl ⟨?_, Or.inr ⟨t, b, rfl, h1, H64.out, HN.out, ?_⟩⟩
      · exact (HB.out.setCell (Nat.le_refl _) _).setCell (Nat.le_refl _) _
      · rcases HCat.out with e | e
        · have := HN.out.1; omega
        · rw [e, HD.out]
    · have HS3 := hide hS
      clear hS
      go_wp2_with fail
      refine (clip_any s _ hs).mono ?_
      rintro e w2 ⟨⟨cs, rfl⟩, hw⟩
      subst hw
      go_wp2_with fail
      have hcx : (w2.alloc (.cells #[.iface 9 (.string cs), .iface 58 (.pointer (some ⟨bk, 0, none⟩))] 20)).cell? ⟨bk, 0, none⟩ = some (.string x) := by
        rw [((Below.refl w2.heap.size w2).alloc (Nat.le_refl _) _).cell (by exact hbk)]; exact hc
      obtain ⟨y, hy⟩ := ef_wrap2 f2 w2.heap.size (.iface 9 (.string cs)) ⟨bk, 0, none⟩ 113 (w2.alloc (.cells #[.iface 9 (.string cs), .iface 58 (.pointer (some ⟨bk, 0, none⟩))] 20)) (by decide) pr2 (by go_simp) (by go_simp) (op_str _ _) (op_err _ _ _ hcx)
      refine (Errorf_of f2 _ _ _ _ _ _ hy).mono ?_
      rintro e w3 ⟨rfl, hw3⟩
      have hS3 : Slot w.heap.size w w3 := HS3.out.later (by rw [hw3]; exact (((Below.refl _ _).alloc (Nat.le_refl _) _).alloc (by simp) _).drew)
      obtain ⟨hz, c0, c1, z0, z1, hB⟩ := hS3
      have HB := hide hB
      clear hcx hy hc hw3 hB
      go_wp2
      refine bodyPost_ret (v := .tuple #[.agg #[.int .u64 0, .string ⟨#[]⟩], .iface 53 (.pointer (some ⟨w2.heap.size + 1, 0, none⟩))]) (by simp [results, Tryf.results9, go_sem, c0, c1]) rfl ⟨?_, Or.inl ⟨_, _, rfl⟩⟩
      exact (HB.out.setCell (Nat.le_refl _) _).setCell (Nat.le_refl _) _
end Go.Proofs.Qxb6002379aFmt

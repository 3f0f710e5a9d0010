import Derived.Test.Qxb6002379aFmtFmt
namespace Go.Proofs.Qxb6002379aFmt
open Go.RowKit Go.Extern.Stop Go.Stop Go.Extern

set_option maxHeartbeats 400000 in
theorem Errorf_of (f : ByteArray) (b n : Nat) (T : TypeId) (p : Value) (w w1 : World) (hr : (callFunc 31 #[.string f, .slice (some ⟨b, 0, none⟩) n n]).run Tryf.prog w = .ok (.value (.iface T p)) w1) :
    Calls Tryf.prog 22 #[.string f, .slice (some ⟨b, 0, none⟩) n n] w fun e w' => e = .returned (.iface T p) ∧ w' = w1 := by
  go_enter Tryf.func22, Tryf.ntmps22
  go_wp2
  go_ret
  exact ⟨rfl, rfl⟩

/-- What CheckProcess hands back: nil and the name is valid, or an error of errors.New's make. -/
def Checked (s : ByteArray) (w : World) (e : Ending) (w' : World) : Prop :=
  Below w.heap.size w w' ∧ (e = .returned .nilIface ∧ Named s ∨ ∃ b t, e = .returned (.iface 58 (.pointer (some ⟨b, 0, none⟩))) ∧ b < w'.heap.size ∧ w'.cell? ⟨b, 0, none⟩ = some (.string t))

theorem checked_new (s t : ByteArray) (w w1 : World) (hg : Below w.heap.size w w1) : Checked s w (.returned (.iface 58 (.pointer (some ⟨w1.heap.size, 0, none⟩)))) (w1.alloc (.cells #[.string t] 60)) :=
  ⟨hg.alloc hg.size _, Or.inr ⟨w1.heap.size, t, rfl, by simp, by go_simp⟩⟩
theorem checked_drew (s t : ByteArray) (w w1 : World) (b : Nat) (hb : b = w1.heap.size) (hg : Below w.heap.size w w1) : Checked s w (.returned (.iface 58 (.pointer (some ⟨b, 0, none⟩)))) (w1.alloc (.cells #[.string t] 60)).drew := by
  subst hb
  exact ⟨(hg.alloc hg.size _).drew, Or.inr ⟨w1.heap.size, t, rfl, by simp, by go_simp⟩⟩

set_option maxRecDepth 100000 in
set_option maxHeartbeats 400000 in
theorem check_empty (s : ByteArray) (w : World) (h : s.size = 0) : Calls Tryf.prog 34 #[.string s] w (Checked s w) := by
  have e0 : ((s.size : Int) == 0) = true := beq_iff_eq.2 (by omega)
  go_enter Tryf.func34, Tryf.ntmps34
  go_wp2
  go_ret
  exact checked_new s _ w w (Below.refl _ _)

set_option maxRecDepth 100000 in
set_option maxHeartbeats 400000 in
theorem check_long (s : ByteArray) (w : World) (hs : s.size ≤ 1048576) (h : 200 < s.size) : Calls Tryf.prog 34 #[.string s] w (Checked s w) := by
  have e0 : ((s.size : Int) == 0) = false := beq_eq_false_iff_ne.2 (by omega)
  have e1 : (200 : Int) < (s.size : Int) := by omega
  go_enter Tryf.func34, Tryf.ntmps34
  go_wp2_with fail
  obtain ⟨t, ht⟩ := ef_plain2 f3 w.heap.size (.iface 3 (.int .i64 (s.size : Int))) (.iface 3 (.int .i64 200)) 100 100 (w.alloc (.cells #[.iface 3 (.int .i64 (s.size : Int)), .iface 3 (.int .i64 200)] 20)) (by decide) (by decide) pr3 (by go_simp) (by go_simp) (op_int _ _) (op_int _ _)
  refine (Errorf_of f3 _ _ _ _ _ _ ht).mono ?_
  rintro e w' ⟨rfl, rfl⟩
  go_wp2
  go_ret
  exact checked_drew s t w (w.alloc _) _ (by simp) ((Below.refl _ _).alloc (Nat.le_refl _) _)

theorem named_of (s : ByteArray) (h0 : ¬ s.size = 0) (h200 : ¬ 200 < s.size) (h : ∀ j (h : j < s.size), 33 ≤ s[j].toNat ∧ s[j].toNat ≤ 126) : Named s := ⟨by omega, by omega, h⟩

set_option maxRecDepth 100000 in
set_option maxHeartbeats 800000 in
theorem check_mid (s : ByteArray) (w : World) (h0 : ¬ s.size = 0) (h200 : ¬ 200 < s.size) : Calls Tryf.prog 34 #[.string s] w (Checked s w) := by
  have e0 : ((s.size : Int) == 0) = false := beq_eq_false_iff_ne.2 (by omega)
  have e1 : (s.size : Int) ≤ 200 := by omega
  go_enter Tryf.func34, Tryf.ntmps34
  go_wp2
  go_loop [3] (fun i => ∃ k : Nat, k ≤ s.size ∧ i = .int .i64 k ∧ ∀ j (h : j < s.size), j < k → 33 ≤ s[j].toNat ∧ s[j].toNat ≤ 126) (fun i => s.size - (intOf i).toNat)
  case atStart => exact ⟨0, Nat.zero_le _, rfl, fun j _ h => by omega⟩
  case round =>
    obtain ⟨k, hk, rfl, hok⟩ := hrel
    have HO := hide hok
    clear hok
    by_cases hlt : k < s.size
    · by_cases hc : 33 ≤ s[k].toNat ∧ s[k].toNat ≤ 126
      · obtain ⟨a, b⟩ := hc
        have a' : (33 : Int) ≤ (s[k].toNat : Int) := by omega
        have b' : (s[k].toNat : Int) ≤ 126 := by omega
        go_wp2
        go_round
        case rel => exact ⟨k + 1, by omega, by go_num, fun j h hj => by
          by_cases e : j = k
          · subst e; exact ⟨a, b⟩
          · exact HO.out j h (by omega)⟩
        case measure => simp [intOf]; omega
      · go_wp2_with fail
        all_goals
          refine (clip_any s w (by omega)).mono ?_
          rintro e w' ⟨⟨cs, rfl⟩, rfl⟩
          go_wp2_with fail
          obtain ⟨t, ht⟩ := ef_plain3 f4 w'.heap.size (.iface 9 (.string cs)) (.iface 5 (.int .u8 (s[k].toNat : Int))) (.iface 3 (.int .i64 (k : Int))) 113 88 100 (w'.alloc (.cells #[.iface 9 (.string cs), .iface 5 (.int .u8 (s[k].toNat : Int)), .iface 3 (.int .i64 (k : Int))] 20)) (by decide) (by decide) (by decide) pr4 (by go_simp) (by go_simp) (by go_simp) (op_str _ _) (op_u8 _ _) (op_int _ _)
          refine (Errorf_of f4 _ _ _ _ _ _ ht).mono ?_
          rintro e w1 ⟨rfl, rfl⟩
          go_wp2
          go_ret
          exact checked_drew s t w' (w'.alloc _) _ (by simp) ((Below.refl _ _).alloc (Nat.le_refl _) _)
    · go_wp2
      go_ret
      exact ⟨Below.refl _ _, Or.inl ⟨rfl, named_of s h0 h200 fun j h => HO.out j h (by omega)⟩⟩

theorem check34 (s : ByteArray) (w : World) (hs : s.size ≤ 1048576) : Calls Tryf.prog 34 #[.string s] w (Checked s w) := by
  by_cases h0 : s.size = 0
  · exact check_empty s w h0
  by_cases h200 : 200 < s.size
  · exact check_long s w hs h200
  · exact check_mid s w h0 h200

set_option maxRecDepth 100000 in
set_option maxHeartbeats 400000 in
theorem check24 (s : ByteArray) (w : World) (hs : s.size ≤ 1048576) : Calls Tryf.prog 24 #[.string s] w (Checked s w) := by
  go_enter Tryf.func24, Tryf.ntmps24
  go_wp2_with fail
  refine (check34 s w hs).mono ?_
  rintro e w1 ⟨hg, ⟨rfl, hn⟩ | ⟨b, t, rfl, hb, hc⟩⟩
  · go_wp2
    go_ret
    exact ⟨hg, Or.inl ⟨rfl, hn⟩⟩
  · go_wp2
    go_ret
    exact ⟨hg, Or.inr ⟨b, t, rfl, hb, hc⟩⟩
end Go.Proofs.Qxb6002379aFmt

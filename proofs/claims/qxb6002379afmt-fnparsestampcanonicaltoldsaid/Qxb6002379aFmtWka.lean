import Derived.Test.Qxb6002379aFmtRows
import Derived.WalkKit
import Derived.WalkSpells
import Derived.WalkLawsBesides
import Derived.Test.Qxb6002379aFmtPlain
namespace Go.Proofs.Qxb6002379aFmt
open Go.RowKit

theorem hide {p : Prop} (h : p) : Hid p := h
theorem ret2_int {k : IntKind} {a b : Int} {c : Bool} (h : a = b) : Ending.returned (.tuple #[.int k a, .bool c]) = .returned (.tuple #[.int k b, .bool c]) := by rw [h]

set_option maxHeartbeats 400000 in
theorem parse_any (s : ByteArray) (w : World) (hs : s.size ≤ maxLen) :
    Calls Tryf.prog 21 #[.string s] w fun e w' => w' = w ∧ (e = .returned (.tuple #[.int .u64 0, .bool false]) ∨ ∃ t : Nat, e = .returned (.tuple #[.int .u64 t, .bool true]) ∧ 1 ≤ t ∧ t < 18446744073709551616 ∧ Lib.decDigits t = s.data.toList) := by
  unfold maxLen at hs
  by_cases h0 : s.size = 0
  · have e0 : ((s.size : Int) == 0) = true := by simp [h0]
    go_enter Tryf.func21, Tryf.ntmps21
    go_wp2
    go_ret2
    exact ⟨rfl, Or.inl rfl⟩
  have e0 : ((s.size : Int) == 0) = false := beq_eq_false_iff_ne.2 (by omega)
  by_cases h20 : 20 < s.size
  · have e1 : decide ((20 : Int) < (s.size : Int)) = true := by simp; omega
    go_enter Tryf.func21, Tryf.ntmps21
    go_wp2
    go_ret2
    exact ⟨rfl, Or.inl rfl⟩
  have e1 : decide ((20 : Int) < (s.size : Int)) = false := by simp; omega
  have h1 : 0 < s.size := by omega
  go_enter Tryf.func21, Tryf.ntmps21
  go_wp2
  · go_ret2
    exact ⟨rfl, Or.inl rfl⟩
  · have h48 : (s[0].toNat : Int) ≠ 48 := by simp_all
    go_loop [4, 5] (fun t i => ∃ k v : Nat, k ≤ s.size ∧ i = .int .i64 k ∧ t = .int .u64 v ∧ (v < 10 ^ k ∧ v < 18446744073709551616) ∧ (k = 0 ∧ v = 0 ∨ 1 ≤ k ∧ 1 ≤ v ∧ Lib.decDigits v = s.data.toList.take k)) (fun _ i => s.size - (intOf i).toNat)
    case atStart => exact ⟨0, 0, Nat.zero_le _, rfl, rfl, ⟨by decide, by decide⟩, Or.inl ⟨rfl, rfl⟩⟩
    case round =>
      obtain ⟨k, v, hk, rfl, rfl, hvv, hdig⟩ := hrel
      have HV := hide hvv
      clear hvv
      by_cases hlt : k < s.size
      · have Hdig := hide hdig
        clear hdig
        by_cases hk19 : k = 19
        · subst hk19
          go_wp2
          · go_ret2
            exact ⟨rfl, Or.inl rfl⟩
          · obtain ⟨x, hx, hx10, hxd⟩ := parse_step s 19 v hlt (by omega) (fun e => by omega) HV.out.1 Hdig.out
            go_round
            case rel => exact ⟨_, _, .int .u64 x, .int .i64 ((19 + 1 : Nat) : Int), ⟨19 + 1, by omega, rfl, x, rfl, ⟨hx10, by omega⟩, hxd⟩, rfl, rfl, by rw [hx], rfl⟩
            case measure => simp [intOf]; omega
          · go_ret2
            exact ⟨rfl, Or.inl rfl⟩
        · have hvb : (v : Int) ≤ 999999999999999999 := by
            have hv := HV.out.1
            have : 10 ^ k ≤ 10 ^ 18 := Nat.pow_le_pow_right (by decide) (by omega)
            omega
          have ek : ((k : Int) == 19) = false := beq_eq_false_iff_ne.2 (by omega)
          go_wp2
          · obtain ⟨x, hx, hx10, hxd⟩ := parse_step s k v hlt (by omega) (fun e => by subst e; omega) HV.out.1 Hdig.out
            go_round
            case rel => exact ⟨_, _, .int .u64 x, .int .i64 ((k + 1 : Nat) : Int), ⟨k + 1, by omega, rfl, x, rfl, ⟨hx10, by omega⟩, hxd⟩, rfl, rfl, by rw [hx], by go_num⟩
            case measure => simp [intOf]; omega
          · go_ret2
            exact ⟨rfl, Or.inl rfl⟩
      · go_wp2
        go_ret2
        have ek : k = s.size := by omega
        rcases hdig with ⟨a, b⟩ | ⟨a, b, c⟩
        · omega
        · exact ⟨rfl, Or.inr ⟨v, rfl, b, HV.out.2, by rw [c, ek]; exact List.take_of_length_le (by simp)⟩⟩

/-- What a valid process name is. -/
def Named (s : ByteArray) : Prop := 1 ≤ s.size ∧ s.size ≤ 200 ∧ ∀ j (h : j < s.size), 33 ≤ s[j].toNat ∧ s[j].toNat ≤ 126

set_option maxRecDepth 100000 in
set_option maxHeartbeats 400000 in
theorem valid_any (s : ByteArray) (w : World) (hn : Named s) : Calls Tryf.prog 10 #[.string s] w fun e w' => e = .returned (.bool true) ∧ w' = w := by
  obtain ⟨n1, n2, n3⟩ := hn
  have N3 := hide n3
  clear n3
  go_enter Tryf.func10, Tryf.ntmps10
  go_wp2
  go_loop [3, 4] (fun c i => ∃ k : Nat, k ≤ s.size ∧ i = .int .i64 k ∧ c = .int .i64 k) (fun _ i => s.size - (intOf i).toNat)
  case atStart => exact ⟨0, Nat.zero_le _, rfl, rfl⟩
  case round =>
    obtain ⟨k, hk, rfl, rfl⟩ := hrel
    by_cases hlt : k < s.size
    · obtain ⟨a, b⟩ := N3.out k hlt
      have a' : (32 : Int) < (s[k].toNat : Int) := by omega
      have b' : (s[k].toNat : Int) < 127 := by omega
      have c' : (k : Int) + 1 ≤ 200 := by omega
      go_wp2
      go_round
      case rel => exact ⟨k + 1, by omega, by go_num, by go_num⟩
      case measure => simp [intOf]; omega
    · have a' : (0 : Int) < (k : Int) := by omega
      go_wp2
      go_ret
      exact ⟨by simp; omega, rfl⟩

set_option maxHeartbeats 400000 in
theorem clip_any (s : ByteArray) (w : World) (hs : s.size ≤ 1048576) : Calls Tryf.prog 23 #[.string s] w fun e w' => (∃ t : ByteArray, e = .returned (.string t)) ∧ w' = w := by
  by_cases h40 : s.size ≤ 40
  · have h' : (s.size : Int) ≤ 40 := by omega
    go_enter Tryf.func23, Tryf.ntmps23
    go_wp2
    go_ret
    exact ⟨⟨_, rfl⟩, rfl⟩
  · have h' : (40 : Int) < (s.size : Int) := by omega
    go_enter Tryf.func23, Tryf.ntmps23
    go_wp2
    go_loop [3] (fun i => ∃ k : Nat, k ≤ 40 ∧ i = .int .i64 k) (fun i => (intOf i).toNat)
    case atStart => exact ⟨40, by decide, rfl⟩
    case round =>
      obtain ⟨k, hk, rfl⟩ := hrel
      by_cases hlt : 0 < k
      · have hk' : k < s.size := by omega
        go_wp2
        · go_round
          case rel => exact ⟨k - 1, by omega, by go_num⟩
          case measure => simp [intOf]; omega
        · go_ret
          exact ⟨⟨_, rfl⟩, rfl⟩
      · go_wp2
        go_ret
        exact ⟨⟨_, rfl⟩, rfl⟩
end Go.Proofs.Qxb6002379aFmt

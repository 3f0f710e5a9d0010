import Derived.Lib.ItoaNum
namespace Go.Proofs.Qxb6002379aFmt
open Go

theorem dec_snoc (v d : Nat) (h1 : 1 ≤ v) (hd : d ≤ 9) : Lib.decDigits (v * 10 + d) = Lib.decDigits v ++ [UInt8.ofNat (48 + d)] := by
  rw [Lib.decDigits.eq_def (v * 10 + d), dif_neg (by omega)]
  rw [show (v * 10 + d) / 10 = v by omega, show (v * 10 + d) % 10 = d by omega]

theorem take_snoc (s : ByteArray) (k : Nat) (h : k < s.size) : s.data.toList.take (k + 1) = s.data.toList.take k ++ [s[k]] := by
  rw [List.take_succ_eq_append_getElem (by simpa using h)]; rfl

/-- One round of parseTime. -/
theorem parse_step (s : ByteArray) (k v : Nat) (hlt : k < s.size) (h9 : ((s[k].toNat : Int) - 48) % 256 ≤ 9) (h48 : k = 0 → s[k].toNat ≠ 48) (hv : v < 10 ^ k)
    (hd : k = 0 ∧ v = 0 ∨ 1 ≤ k ∧ 1 ≤ v ∧ Lib.decDigits v = s.data.toList.take k) :
    ∃ x : Nat, (x : Int) = (v : Int) * 10 + ((s[k].toNat : Int) - 48) % 256 ∧ x < 10 ^ (k + 1) ∧ (k + 1 = 0 ∧ x = 0 ∨ 1 ≤ k + 1 ∧ 1 ≤ x ∧ Lib.decDigits x = s.data.toList.take (k + 1)) := by
  have hb : s[k].toNat < 256 := UInt8.toNat_lt _
  obtain ⟨d, hd9, hdx⟩ : ∃ d : Nat, d ≤ 9 ∧ s[k].toNat = 48 + d := ⟨s[k].toNat - 48, by omega, by omega⟩
  have hx : s[k] = UInt8.ofNat (48 + d) := by rw [← hdx]; simp
  refine ⟨v * 10 + d, by rw [hdx]; omega, by rw [Nat.pow_succ]; omega, Or.inr ⟨by omega, ?_, ?_⟩⟩
  · rcases hd with ⟨a, b⟩ | ⟨a, b, c⟩
    · have := h48 a; omega
    · omega
  · rw [take_snoc s k hlt]
    rcases hd with ⟨a, b⟩ | ⟨a, b, c⟩
    · subst a b
      rw [show 0 * 10 + d = d by omega, Lib.decDigits_one (by omega), hx]
      rfl
    · rw [dec_snoc v d b hd9, c, hx]
end Go.Proofs.Qxb6002379aFmt

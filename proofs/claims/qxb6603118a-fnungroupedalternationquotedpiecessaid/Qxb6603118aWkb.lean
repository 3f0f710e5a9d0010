import Derived.Test.Qxb6603118aWka
namespace Go.Proofs.Qxb6603118a
open Go.RowKit

theorem drop_at (s : ByteArray) (i : Nat) (c : UInt8) (l : List UInt8) (h : s.data.toList.drop i = c :: l) : ∃ hi : i < s.size, s[i] = c ∧ s.data.toList.drop (i + 1) = l := by
  have hlt : i < s.data.toList.length := by
    rcases Nat.lt_or_ge i s.data.toList.length with k | k
    · exact k
    · rw [List.drop_eq_nil_of_le k] at h; cases h
  rw [List.drop_eq_getElem_cons hlt] at h
  injection h with h1 h2
  exact ⟨hlt, h1, h2⟩
theorem drop_nil (s : ByteArray) (i : Nat) (hi : i ≤ s.size) (h : s.data.toList.drop i = []) : i = s.size := by
  have hlen : s.data.toList.length = s.size := rfl
  have := List.drop_eq_nil_iff.1 h
  omega

theorem pre2 (s : ByteArray) (i : Nat) (x y c : UInt8) (l : List UInt8) (h : s.data.toList.drop i = c :: l) (hc : c ≠ x) : Lib.hasPrefix (s.extract i s.size).data.toList [x, y] = false := by
  rw [Lib.extract_to_end, h]
  unfold Lib.hasPrefix
  have : (x == c) = false := beq_eq_false_iff_ne.2 (fun e => hc e.symm)
  simp [List.isPrefixOf, this]
theorem pre3 (s : ByteArray) (i : Nat) (x y c d : UInt8) (l : List UInt8) (h : s.data.toList.drop i = c :: d :: l) (hc : d ≠ y) : Lib.hasPrefix (s.extract i s.size).data.toList [x, y] = false := by
  rw [Lib.extract_to_end, h]
  unfold Lib.hasPrefix
  have : (y == d) = false := beq_eq_false_iff_ne.2 (fun e => hc e.symm)
  simp [List.isPrefixOf, this]

theorem ne_nat {c d : UInt8} (h : c ≠ d) : c.toNat ≠ d.toNat := fun e => h (UInt8.toNat_inj.1 e)

def ClsSaid (s : ByteArray) (st : Nat) (l' : List UInt8) (w : World) (e : Ending) (w' : World) : Prop := ∃ n : Nat, st < n ∧ n < s.size ∧ s.data.toList.drop (n + 1) = l' ∧ e = .returned (.int .i64 (n : Int)) ∧ w = w'

set_option maxRecDepth 100000 in
set_option maxHeartbeats 2000000 in
theorem classEnd26 (s : ByteArray) (st : Nat) (c : UInt8) (l l' : List UInt8) (w : World) (hs : s.size ≤ 2000000) (hst : s.data.toList.drop (st + 1) = c :: l) (h94 : c ≠ 94) (h93 : c ≠ 93) (hcl : Pl.Cls (c :: l) l') :
    Calls Try.prog 26 #[.string s, .int .i64 (st : Int)] w (ClsSaid s st l' w) := by
  obtain ⟨hlt, hat, hnx⟩ := drop_at s (st + 1) c l hst
  have l1 : (st : Int) + 1 < (s.size : Int) := by omega
  have e94 : ((s[st + 1].toNat : Int) == 94) = false := by
    rw [hat, beq_eq_false_iff_ne]
    have := ne_nat h94
    intro k
    apply this
    show c.toNat = 94
    omega
  have e93 : ((s[st + 1].toNat : Int) == 93) = false := by
    rw [hat, beq_eq_false_iff_ne]
    have := ne_nat h93
    intro k
    apply this
    show c.toNat = 93
    omega
  rw [← hst] at hcl
  have HCL := hide hcl
  clear hcl hst hat hnx h94 h93
  go_enter Try.func26, Try.ntmps26
  go_wp2
  go_loop [5] (fun x => ∃ i : Nat, st < i ∧ i ≤ s.size ∧ x = .int .i64 (i : Int) ∧ Pl.Cls (s.data.toList.drop i) l') (fun x => s.size - (intOf x).toNat)
  case atStart => exact ⟨st + 1, by omega, by omega, by go_num, HCL.out⟩
  case round =>
    clear HCL
    obtain ⟨i, i1, i2, rfl, hcl⟩ := hrel
    generalize hd : s.data.toList.drop i = X at hcl
    rcases hcl.out with rfl | ⟨c, l1, rfl, h1, h2, h3, hr⟩ | ⟨c, l1, rfl, hr⟩
    · clear hcl
      obtain ⟨hi, ha, hn⟩ := drop_at s i _ _ hd
      have l2 : (i : Int) < (s.size : Int) := by omega
      have lsl : (i : Int) ≤ (s.size : Int) := by omega
      have hx : (s[i].toNat : Int) = 93 := by rw [ha]; rfl
      have hp := fun W => Try.strings_HasPrefix (s.extract i s.size) ⟨#[91, 58]⟩ W
      rw [show (Lib.hasPrefix (s.extract i s.size).data.toList (⟨#[91, 58]⟩ : ByteArray).data.toList) = false from pre2 s i 91 58 93 _ hd (by decide)] at hp
      have HP := hide hp
      have HN := hide hn
      clear hp hn ha hd
      go_wp2_with (go_at_call 29; refine (HP.out _).mono ?_; rintro e w1 ⟨rfl, hw⟩; subst hw)
      go_ret
      exact ⟨i, i1, hi, HN.out, rfl, rfl⟩
    · clear hcl
      obtain ⟨hi, ha, hn⟩ := drop_at s i _ _ hd
      have l2 : (i : Int) < (s.size : Int) := by omega
      have lsl : (i : Int) ≤ (s.size : Int) := by omega
      have x1 : ((s[i].toNat : Int) == 92) = false := by
        rw [beq_eq_false_iff_ne, ha]; intro k; exact ne_nat h1 (show c.toNat = 92 by omega)
      have x2 : ((s[i].toNat : Int) == 93) = false := by
        rw [beq_eq_false_iff_ne, ha]; intro k; exact ne_nat h3 (show c.toNat = 93 by omega)
      have hp := fun W => Try.strings_HasPrefix (s.extract i s.size) ⟨#[91, 58]⟩ W
      rw [show (Lib.hasPrefix (s.extract i s.size).data.toList (⟨#[91, 58]⟩ : ByteArray).data.toList) = false from pre2 s i 91 58 c _ hd h2] at hp
      have HP := hide hp
      have HN : Hid (Pl.Cls (s.data.toList.drop (i + 1)) l') := by show Pl.Cls _ _; rw [hn]; exact hr
      clear hp hn ha hd hr h1 h2 h3
      go_wp2_with (go_at_call 29; refine (HP.out _).mono ?_; rintro e w1 ⟨rfl, hw⟩; subst hw)
      go_round
      case rel => exact ⟨i + 1, by omega, by omega, by go_num, HN.out⟩
      case measure => simp [intOf]; omega
    · clear hcl
      obtain ⟨hi, ha, hn⟩ := drop_at s i _ _ hd
      obtain ⟨hi2, ha2, hn2⟩ := drop_at s (i + 1) _ _ hn
      have l2 : (i : Int) < (s.size : Int) := by omega
      have hx : (s[i].toNat : Int) = 92 := by rw [ha]; rfl
      have HN : Hid (Pl.Cls (s.data.toList.drop (i + 1 + 1)) l') := by show Pl.Cls _ _; rw [hn2]; exact hr
      clear hn ha hd hr ha2 hn2
      go_wp2
      go_round
      case rel => exact ⟨i + 1 + 1, by omega, by omega, by go_num, HN.out⟩
      case measure => simp [intOf]; omega

def UnSaid (w : World) (r : Bool) (e : Ending) (w' : World) : Prop := e = .returned (.bool r) ∧ w = w'

theorem nat_of {c : UInt8} {n : Nat} (k : (c.toNat : Int) = (n : Int)) (d : UInt8) (hd : d.toNat = n) : c = d := UInt8.toNat_inj.1 (by omega)

set_option maxRecDepth 100000 in
set_option maxHeartbeats 2000000 in
theorem ungrouped25 (s : ByteArray) (r : Bool) (w : World) (hs : s.size ≤ 2000000) (hrun : Pl.Run s.data.toList 0 r) :
    Calls Try.prog 25 #[.string s] w (UnSaid w r) := by
  have HR := hide hrun
  clear hrun
  go_enter Try.func25, Try.ntmps25
  go_wp2
  go_loop [3, 4] (fun dd x => ∃ (i : Nat) (d : Int), i ≤ s.size ∧ -(i : Int) ≤ d ∧ d ≤ (i : Int) ∧ dd = .int .i64 d ∧ x = .int .i64 (i : Int) ∧ Pl.Run (s.data.toList.drop i) d r) (fun _ x => s.size - (intOf x).toNat)
  case atStart => exact ⟨0, 0, Nat.zero_le _, by omega, by omega, rfl, rfl, HR.out⟩
  case round =>
    clear HR
    obtain ⟨i, d, i2, d1, d2, rfl, rfl, hcl⟩ := hrel
    generalize hd : s.data.toList.drop i = X at hcl
    rcases hcl.out with ⟨rfl, rfl⟩ | ⟨c, l1, rfl, h1, h2, h3, h4, h5, hr⟩ | ⟨c, l1, rfl, h1, hr⟩ | ⟨l1, rfl, hr⟩ | ⟨l1, rfl, hr⟩ | ⟨l1, rfl, rfl, rfl⟩ | ⟨l1, rfl, h0, hr⟩ | ⟨c, l1, l2', rfl, h94, h93, hc, hr⟩
    · clear hcl
      have e := drop_nil s i i2 hd
      have l2 : ¬ ((i : Int) < (s.size : Int)) := by omega
      clear hd
      go_wp2
      go_ret
      exact ⟨rfl, rfl⟩
    · clear hcl
      obtain ⟨hi, ha, hn⟩ := drop_at s i _ _ hd
      have l2 : (i : Int) < (s.size : Int) := by omega
      have x1 : ((s[i].toNat : Int) == 92) = false := by
        rw [beq_eq_false_iff_ne, ha]; intro k; exact h1 (nat_of (n := 92) k 92 rfl)
      have x2 : ((s[i].toNat : Int) == 91) = false := by
        rw [beq_eq_false_iff_ne, ha]; intro k; exact h2 (nat_of (n := 91) k 91 rfl)
      have x3 : ((s[i].toNat : Int) == 40) = false := by
        rw [beq_eq_false_iff_ne, ha]; intro k; exact h3 (nat_of (n := 40) k 40 rfl)
      have x4 : ((s[i].toNat : Int) == 41) = false := by
        rw [beq_eq_false_iff_ne, ha]; intro k; exact h4 (nat_of (n := 41) k 41 rfl)
      have x5 : ((s[i].toNat : Int) == 124) = false := by
        rw [beq_eq_false_iff_ne, ha]; intro k; exact h5 (nat_of (n := 124) k 124 rfl)
      have HN : Hid (Pl.Run (s.data.toList.drop (i + 1)) d r) := by show Pl.Run _ _ _; rw [hn]; exact hr
      clear hn ha hd hr h1 h2 h3 h4 h5
      go_wp2
      go_round
      case rel => exact ⟨i + 1, d, by omega, by omega, by omega, rfl, by go_num, HN.out⟩
      case measure => simp [intOf]; omega
    · clear hcl
      obtain ⟨hi, ha, hn⟩ := drop_at s i _ _ hd
      obtain ⟨hi2, ha2, hn2⟩ := drop_at s (i + 1) _ _ hn
      have l2 : (i : Int) < (s.size : Int) := by omega
      have lsl : (i : Int) ≤ (s.size : Int) := by omega
      have hx : (s[i].toNat : Int) = 92 := by rw [ha]; rfl
      have hp := fun W => Try.strings_HasPrefix (s.extract i s.size) ⟨#[92, 81]⟩ W
      rw [show (Lib.hasPrefix (s.extract i s.size).data.toList (⟨#[92, 81]⟩ : ByteArray).data.toList) = false from pre3 s i 92 81 92 c _ hd h1] at hp
      have HP := hide hp
      have HN : Hid (Pl.Run (s.data.toList.drop (i + 1 + 1)) d r) := by show Pl.Run _ _ _; rw [hn2]; exact hr
      clear hp hn ha hd hr h1 ha2 hn2
      go_wp2_with (go_at_call 29; refine (HP.out _).mono ?_; rintro e w1 ⟨rfl, hw⟩; subst hw)
      go_round
      case rel => exact ⟨i + 1 + 1, d, by omega, by omega, by omega, rfl, by go_num, HN.out⟩
      case measure => simp [intOf]; omega
    · clear hcl
      obtain ⟨hi, ha, hn⟩ := drop_at s i _ _ hd
      have l2 : (i : Int) < (s.size : Int) := by omega
      have hx : (s[i].toNat : Int) = 40 := by rw [ha]; rfl
      have HN : Hid (Pl.Run (s.data.toList.drop (i + 1)) (d + 1) r) := by show Pl.Run _ _ _; rw [hn]; exact hr
      clear hn ha hd hr
      go_wp2
      go_round
      case rel => exact ⟨i + 1, d + 1, by omega, by omega, by omega, by go_num, by go_num, HN.out⟩
      case measure => simp [intOf]; omega
    · clear hcl
      obtain ⟨hi, ha, hn⟩ := drop_at s i _ _ hd
      have l2 : (i : Int) < (s.size : Int) := by omega
      have hx : (s[i].toNat : Int) = 41 := by rw [ha]; rfl
      have HN : Hid (Pl.Run (s.data.toList.drop (i + 1)) (d - 1) r) := by show Pl.Run _ _ _; rw [hn]; exact hr
      clear hn ha hd hr
      go_wp2
      go_round
      case rel => exact ⟨i + 1, d - 1, by omega, by omega, by omega, by go_num, by go_num, HN.out⟩
      case measure => simp [intOf]; omega
    · clear hcl
      obtain ⟨hi, ha, hn⟩ := drop_at s i _ _ hd
      have l2 : (i : Int) < (s.size : Int) := by omega
      have hx : (s[i].toNat : Int) = 124 := by rw [ha]; rfl
      clear hn ha hd
      go_wp2
      go_ret
      exact ⟨rfl, rfl⟩
    · clear hcl
      obtain ⟨hi, ha, hn⟩ := drop_at s i _ _ hd
      have l2 : (i : Int) < (s.size : Int) := by omega
      have hx : (s[i].toNat : Int) = 124 := by rw [ha]; rfl
      have e0 : (d == 0) = false := beq_eq_false_iff_ne.2 h0
      have HN : Hid (Pl.Run (s.data.toList.drop (i + 1)) d r) := by show Pl.Run _ _ _; rw [hn]; exact hr
      clear hn ha hd hr h0
      go_wp2
      go_round
      case rel => exact ⟨i + 1, d, by omega, by omega, by omega, rfl, by go_num, HN.out⟩
      case measure => simp [intOf]; omega
    · clear hcl
      obtain ⟨hi, ha, hn⟩ := drop_at s i _ _ hd
      have l2 : (i : Int) < (s.size : Int) := by omega
      have hx : (s[i].toNat : Int) = 91 := by rw [ha]; rfl
      have HCE := hide (fun W => classEnd26 s i c l1 l2' W hs hn h94 h93 hc)
      have HR := hide hr
      clear hn ha hd hr hc h94 h93
      go_wp2_with fail
      refine (HCE.out _).mono ?_
      rintro e w1 ⟨n, n1, n2, hn, rfl, hw⟩
      subst hw
      have HN : Hid (Pl.Run (s.data.toList.drop (n + 1)) d r) := by show Pl.Run _ _ _; rw [hn]; exact HR.out
      clear hn HR HCE
      go_wp2
      go_round
      case rel => exact ⟨n + 1, d, by omega, by omega, by omega, rfl, by go_num, HN.out⟩
      case measure => simp [intOf]; omega
end Go.Proofs.Qxb6603118a

import Derived.Test.Qxb6601067aWkb
namespace Go.Proofs.Qxb6601067a
open Go.RowKit

theorem any_split (chars : List UInt8) : ∀ l, (Lib.indexAny l chars = -1 ∧ ∀ c ∈ l, chars.contains c = false) ∨ ∃ pre c rest, l = pre ++ c :: rest ∧ (∀ x ∈ pre, chars.contains x = false) ∧ chars.contains c = true ∧ Lib.indexAny l chars = (pre.length : Int)
  | [] => Or.inl ⟨rfl, fun c h => by simp at h⟩
  | b :: l => by
    cases hb : chars.contains b
    · rcases any_split chars l with ⟨h1, h2⟩ | ⟨pre, c, rest, h1, h2, h3, h4⟩
      · left
        refine ⟨by rw [Lib.indexAny, hb, h1]; rfl, fun c hc => ?_⟩
        rcases List.mem_cons.1 hc with rfl | h
        · exact hb
        · exact h2 c h
      · right
        refine ⟨b :: pre, c, rest, by rw [h1]; rfl, fun x hx => ?_, h3, ?_⟩
        · rcases List.mem_cons.1 hx with rfl | h
          · exact hb
          · exact h2 x h
        · have hne : ((pre.length : Int) == -1) = false := beq_eq_false_iff_ne.2 (by omega)
          rw [Lib.indexAny, hb, h4, hne]
          simp
    · right
      exact ⟨[], b, l, rfl, fun x hx => by simp at hx, hb, by rw [Lib.indexAny, if_pos hb]; rfl⟩

/-- What IndexAny tells. -/
def IaSaid (s : ByteArray) (w : World) (e : Ending) (w' : World) : Prop :=
  Below w.heap.size w w' ∧ ((Pl.noOpen s.data.toList ∧ e = .returned (.int .i64 (-1))) ∨ ∃ pre c rest, s.data.toList = pre ++ c :: rest ∧ Pl.noOpen pre ∧ (c = 60 ∨ c = 34) ∧ e = .returned (.int .i64 (pre.length : Int)))

theorem opens_no {x : UInt8} (h : opens.data.toList.contains x = false) : x ≠ 60 ∧ x ≠ 34 := by
  rw [opens_in] at h
  simpa using h
theorem opens_yes {x : UInt8} (h : opens.data.toList.contains x = true) : x = 60 ∨ x = 34 := by
  rw [opens_in] at h
  simpa using h

theorem indexAny25 (s : ByteArray) (w : World) (hs : s.size ≤ 65536) : Calls Try.prog 25 #[.string s, .string opens] w (IaSaid s w) := by
  have h : Calls Try.prog 25 #[.string s, .string opens] w fun e w' => e = .returned (.int .i64 (Lib.indexAny s.data.toList opens.data.toList)) ∧ Below w.heap.size w w' := by
    by_cases h8 : s.size ≤ 8
    · exact indexAny_short s w h8
    · refine (Try.strings_IndexAny_long (fun _ => by kernel_rfl) s opens w (by decide) (by omega) (by omega) (by decide) ?_).mono ?_
      · intro j b hb
        exact opens_asc b (List.mem_of_getElem? hb)
      · rintro e w' ⟨rfl, rfl⟩
        exact ⟨rfl, ((Below.refl _ _).alloc (Nat.le_refl _) _).alloc (by simp) _⟩
  refine h.mono ?_
  rintro e w' ⟨rfl, hb⟩
  refine ⟨hb, ?_⟩
  rcases any_split opens.data.toList s.data.toList with ⟨h1, h2⟩ | ⟨pre, c, rest, h1, h2, h3, h4⟩
  · exact Or.inl ⟨fun c hc => opens_no (h2 c hc), by rw [h1]⟩
  · exact Or.inr ⟨pre, c, rest, h1, fun x hx => opens_no (h2 x hx), opens_yes h3, by rw [h4]⟩

/-- Where a target closes. -/
def ClSaid (s : ByteArray) (w : World) (e : Ending) (w' : World) : Prop :=
  w = w' ∧ ((e = .returned (.int .i64 (s.size : Int)) ∧ ∀ c ∈ s.data.toList, c ≠ 62) ∨ ∃ t X, s.data.toList = t ++ 62 :: X ∧ (∀ c ∈ t, c ≠ 62) ∧ e = .returned (.int .i64 (t.length : Int)))

theorem one_no {x : UInt8} (h : [(62 : UInt8)].contains x = false) : x ≠ 62 := by
  intro e; subst e; revert h; decide
theorem one_yes {x : UInt8} (h : [(62 : UInt8)].contains x = true) : x = 62 := by simpa using h

set_option maxRecDepth 100000 in
set_option maxHeartbeats 400000 in
theorem closing_lt (s : ByteArray) (w : World) : Calls Try.prog 23 #[.string s, .int .u8 60] w (ClSaid s w) := by
  have hI := fun W => Try.strings_IndexByte s 62 W
  rw [show Lib.indexByte s.data.toList (62 : Int).toNat.toUInt8 = Lib.indexAny s.data.toList [62] from (Lib.indexAny_one 62 _).symm] at hI
  rcases any_split [62] s.data.toList with ⟨h1, h2⟩ | ⟨pre, c, rest, h1, h2, h3, h4⟩
  · rw [h1] at hI
    have HI := hide hI
    have H2 := hide h2
    clear hI h1 h2
    go_enter Try.func23, Try.ntmps23
    go_wp2_with (go_at_call 30; refine (HI.out _).mono ?_; rintro e w1 ⟨rfl, hw⟩; subst hw)
    go_ret
    exact ⟨rfl, Or.inl ⟨rfl, fun c hc => one_no (H2.out c hc)⟩⟩
  · rw [h4] at hI
    have e62 := one_yes h3
    subst e62
    have HI := hide hI
    have H1 := hide h1
    have H2 := hide h2
    have l0 : (0 : Int) ≤ (pre.length : Int) := by omega
    clear hI h1 h2 h3 h4
    go_enter Try.func23, Try.ntmps23
    go_wp2_with (go_at_call 30; refine (HI.out _).mono ?_; rintro e w1 ⟨rfl, hw⟩; subst hw)
    go_ret
    exact ⟨rfl, Or.inr ⟨pre, rest, H1.out, fun c hc => one_no (H2.out c hc), rfl⟩⟩

theorem qe_cons (c : UInt8) (l : List UInt8) : Pl.qe (c :: l) = if c = 34 then 0 else if c = 92 then (match l with | [] => 1 | _ :: m => 2 + Pl.qe m) else 1 + Pl.qe l := by cases l <;> simp [Pl.qe]

theorem drop_at (s : ByteArray) (i : Nat) (h : i < s.size) : s.data.toList.drop i = s[i] :: s.data.toList.drop (i + 1) := by
  have hlt : i < s.data.toList.length := h
  rw [List.drop_eq_getElem_cons hlt]
  rfl
theorem drop_end (s : ByteArray) : s.data.toList.drop s.size = [] := List.drop_eq_nil_of_le (Nat.le_refl _)

theorem byte_ne {c : UInt8} {n : Nat} (d : UInt8) (hd : d.toNat = n) (h : c ≠ d) : ((c.toNat : Int) == (n : Int)) = false := by
  rw [beq_eq_false_iff_ne]
  intro k
  exact h (UInt8.toNat_inj.1 (by omega))

set_option maxRecDepth 100000 in
set_option maxHeartbeats 1000000 in
theorem closing_qu (s : ByteArray) (w : World) (hs : s.size ≤ 65536) : Calls Try.prog 23 #[.string s, .int .u8 34] w fun e w' => e = .returned (.int .i64 (Pl.qe s.data.toList : Int)) ∧ w = w' := by
  have HLe := hide (Pl.qe_le _ s.data.toList (Nat.le_refl _))
  generalize hN : Pl.qe s.data.toList = N at *
  have HN := hide hN
  clear hN
  go_enter Try.func23, Try.ntmps23
  go_wp2
  go_loop [6] (fun x => ∃ i : Nat, x = .int .i64 (i : Int) ∧ ((i ≤ s.size ∧ i + Pl.qe (s.data.toList.drop i) = N) ∨ (i = s.size + 1 ∧ N = s.size))) (fun x => s.size + 1 - (intOf x).toNat)
  case atStart => exact ⟨0, rfl, Or.inl ⟨Nat.zero_le _, by rw [List.drop_zero, HN.out]; omega⟩⟩
  case round =>
    obtain ⟨i, rfl, hcase⟩ := hrel
    by_cases hlt : i < s.size
    · have l1 : (i : Int) < (s.size : Int) := by omega
      have hq : i + Pl.qe (s.data.toList.drop i) = N := by
        rcases hcase with h | h
        · exact h.2
        · omega
      rw [drop_at s i hlt] at hq
      clear hcase
      by_cases h34 : s[i] = 34
      · have hx : (s[i].toNat : Int) = 34 := by rw [h34]; rfl
        have HQ : Hid (i = N) := by show _ = _; rw [h34, qe_cons, if_pos rfl] at hq; exact hq
        clear hq h34
        go_wp2
        go_ret
        exact ⟨by rw [← HQ.out]; rfl, rfl⟩
      · have x34 : ((s[i].toNat : Int) == 34) = false := byte_ne (n := 34) 34 rfl h34
        rw [qe_cons, if_neg h34] at hq
        by_cases h92 : s[i] = 92
        · have hx : (s[i].toNat : Int) = 92 := by rw [h92]; rfl
          rw [if_pos h92] at hq
          by_cases hl2 : i + 1 < s.size
          · rw [drop_at s (i + 1) hl2] at hq
            have HQ : Hid (i + 1 + 1 + Pl.qe (s.data.toList.drop (i + 1 + 1)) = N) := by show _ = _; dsimp only at hq; omega
            clear hq h34 h92 x34
            go_wp2
            go_round
            case rel => exact ⟨i + 1 + 1, by go_num, Or.inl ⟨by omega, HQ.out⟩⟩
            case measure => simp [intOf]; omega
          · have e : i + 1 = s.size := by omega
            rw [e, drop_end] at hq
            have HQ : Hid (N = s.size) := by show _ = _; dsimp only at hq; omega
            clear hq h34 h92 x34
            go_wp2
            go_round
            case rel => exact ⟨i + 1 + 1, by go_num, Or.inr ⟨by omega, HQ.out⟩⟩
            case measure => simp [intOf]; omega
        · have x92 : ((s[i].toNat : Int) == 92) = false := byte_ne (n := 92) 92 rfl h92
          rw [if_neg h92] at hq
          have HQ : Hid (i + 1 + Pl.qe (s.data.toList.drop (i + 1)) = N) := by show _ = _; omega
          clear hq h34 h92
          go_wp2
          go_round
          case rel => exact ⟨i + 1, by go_num, Or.inl ⟨by omega, HQ.out⟩⟩
          case measure => simp [intOf]; omega
    · have l1 : ¬ ((i : Int) < (s.size : Int)) := by omega
      have HQ : Hid (N = s.size) := by
        show _ = _
        rcases hcase with ⟨a, b⟩ | h
        · have e : i = s.size := by omega
          rw [e, drop_end] at b
          simp only [Pl.qe] at b
          omega
        · exact h.2
      clear hcase
      go_wp2
      go_ret
      exact ⟨by rw [HQ.out]; rfl, rfl⟩
end Go.Proofs.Qxb6601067a

namespace Go.Proofs.Qxb6601067a.Pl

/-- What may follow the base. -/
def okRest : List UInt8 → Bool
  | [] => true
  | c :: _ => c == 47 || c == 63 || c == 35
/-- A target, rebased. -/
def rb (F T t : List UInt8) : List UInt8 := if F.isPrefixOf t = true ∧ okRest (t.drop F.length) = true then T ++ t.drop F.length else t

/-- The machine: what is still to be written. State 0: outside; 1: in a target, 'acc' read so far; 2: in a quoted text; 3: behind a backslash in it. -/
def mm (F T : List UInt8) : Nat → List UInt8 → List UInt8 → List UInt8
  | st, acc, [] => if st = 1 then acc else []
  | st, acc, c :: l =>
    if st = 0 then c :: (if c = 60 then mm F T 1 [] l else if c = 34 then mm F T 2 [] l else mm F T 0 [] l)
    else if st = 1 then (if c = 62 then rb F T acc ++ c :: mm F T 0 [] l else mm F T 1 (acc ++ [c]) l)
    else if st = 2 then c :: (if c = 92 then mm F T 3 [] l else if c = 34 then mm F T 0 [] l else mm F T 2 [] l)
    else c :: mm F T 2 [] l

/-- Where a quoted text closes: the first quote that no backslash escapes, or the end. -/
def qe : List UInt8 → Nat
  | [] => 0
  | c :: l => if c = 34 then 0 else if c = 92 then (match l with | [] => 1 | _ :: m => 2 + qe m) else 1 + qe l

def noOpen (l : List UInt8) : Prop := ∀ c ∈ l, c ≠ 60 ∧ c ≠ 34

theorem mm0_skip (F T X : List UInt8) : ∀ pre, noOpen pre → mm F T 0 [] (pre ++ X) = pre ++ mm F T 0 [] X
  | [], _ => rfl
  | c :: l, h => by
    have hc := h c (by simp)
    have ih := mm0_skip F T X l (fun x hx => h x (by simp [hx]))
    show mm F T 0 [] (c :: (l ++ X)) = _
    rw [mm, if_pos rfl, if_neg hc.1, if_neg hc.2, ih]
    rfl
theorem mm0_plain (F T : List UInt8) (l : List UInt8) (h : noOpen l) : mm F T 0 [] l = l := by
  have := mm0_skip F T [] l h
  simp only [List.append_nil] at this
  rw [this]
  simp [mm]

theorem mm0_lt (F T l : List UInt8) : mm F T 0 [] (60 :: l) = 60 :: mm F T 1 [] l := by rw [mm, if_pos rfl, if_pos rfl]
theorem mm0_qu (F T l : List UInt8) : mm F T 0 [] (34 :: l) = 34 :: mm F T 2 [] l := by rw [mm, if_pos rfl, if_neg (by decide), if_pos rfl]

theorem mm1_closed (F T X : List UInt8) : ∀ t acc, (∀ c ∈ t, c ≠ 62) → mm F T 1 acc (t ++ 62 :: X) = rb F T (acc ++ t) ++ 62 :: mm F T 0 [] X
  | [], acc, _ => by
    show mm F T 1 acc (62 :: X) = _
    rw [mm, if_neg (by decide), if_pos rfl, if_pos rfl, List.append_nil]
  | c :: t, acc, h => by
    have ih := mm1_closed F T X t (acc ++ [c]) (fun x hx => h x (by simp [hx]))
    show mm F T 1 acc (c :: (t ++ 62 :: X)) = _
    rw [mm, if_neg (by decide), if_pos rfl, if_neg (h c (by simp)), ih]
    simp
theorem mm1_open (F T : List UInt8) : ∀ t acc, (∀ c ∈ t, c ≠ 62) → mm F T 1 acc t = acc ++ t
  | [], acc, _ => by rw [mm, if_pos rfl, List.append_nil]
  | c :: t, acc, h => by
    have ih := mm1_open F T t (acc ++ [c]) (fun x hx => h x (by simp [hx]))
    rw [mm, if_neg (by decide), if_pos rfl, if_neg (h c (by simp)), ih]
    simp

theorem qe_le : ∀ n l, l.length ≤ n → qe l ≤ l.length
  | _, [], _ => Nat.le_refl _
  | n + 1, [c], h => by unfold qe; split <;> simp_all [qe]
  | n + 1, c :: d :: l, h => by
    have h1 := qe_le n l (by simp at h ⊢; omega)
    have h2 := qe_le n (d :: l) (by simp at h ⊢; omega)
    rw [qe]
    simp only [List.length_cons] at h2 ⊢
    split
    · omega
    · split
      · omega
      · omega

theorem mm2_run (F T : List UInt8) : ∀ n l, l.length ≤ n → mm F T 2 [] l = l.take (qe l) ++ (if qe l < l.length then 34 :: mm F T 0 [] (l.drop (qe l + 1)) else [])
  | _, [], _ => by simp [mm, qe]
  | n + 1, [c], h => by
    rw [mm, if_neg (by decide), if_neg (by decide), if_pos rfl]
    by_cases h34 : c = 34
    · subst h34
      simp [qe, mm]
    · by_cases h92 : c = 92
      · subst h92
        simp [qe, mm]
      · simp [qe, mm, h34, h92]
  | n + 1, c :: d :: l, h => by
    have hl : l.length ≤ n := by simp at h; omega
    have h1 := mm2_run F T n l hl
    have h2 := mm2_run F T n (d :: l) (by simp at h ⊢; omega)
    rw [mm, if_neg (by decide), if_neg (by decide), if_pos rfl, qe]
    by_cases h34 : c = 34
    · subst h34
      simp
    · by_cases h92 : c = 92
      · subst h92
        rw [if_pos rfl, if_neg (by decide), mm, if_neg (by decide), if_neg (by decide), if_neg (by decide), h1]
        rw [show (if (92 : UInt8) = 92 then 2 + qe l else 1 + qe (d :: l)) = qe l + 1 + 1 by rw [if_pos rfl]; omega]
        simp
      · rw [if_neg h34, if_neg h92, if_neg h92, if_neg h34, h2, show 1 + qe (d :: l) = qe (d :: l) + 1 by omega]
        simp

theorem rb_len (F T t : List UInt8) : (rb F T t).length ≤ t.length + T.length := by
  unfold rb
  split
  · simp; omega
  · omega

theorem mm_len (F T : List UInt8) : ∀ l st acc, (mm F T st acc l).length ≤ acc.length + l.length * (T.length + 1)
  | [], st, acc => by rw [mm]; split <;> simp
  | c :: l, st, acc => by
    have h0 := mm_len F T l 0 []
    have h1 := mm_len F T l 1 []
    have h1' := mm_len F T l 1 (acc ++ [c])
    have h2 := mm_len F T l 2 []
    have h3 := mm_len F T l 3 []
    have hr := rb_len F T acc
    simp only [List.length_nil, List.length_append, List.length_cons] at *
    have e : (l.length + 1) * (T.length + 1) = l.length * (T.length + 1) + (T.length + 1) := by rw [Nat.add_mul]; omega
    rw [mm, e]
    generalize l.length * (T.length + 1) = Z at *
    repeat' split
    all_goals (try simp only [List.length_cons, List.length_append])
    all_goals omega
end Go.Proofs.Qxb6601067a.Pl

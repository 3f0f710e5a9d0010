namespace Go.Proofs.Qxb6603118a.Pl

/-! ### Quoting -/
def isMeta (c : Nat) : Bool := c == 92 || c == 46 || c == 43 || c == 42 || c == 63 || c == 40 || c == 41 || c == 124 || c == 91 || c == 93 || c == 123 || c == 125 || c == 94 || c == 36

def tok (c : UInt8) : List UInt8 := if isMeta c.toNat = true then [92, c] else [c]
def qz : List UInt8 → List UInt8
  | [] => []
  | c :: l => tok c ++ qz l

theorem qz_snoc (c : UInt8) : ∀ l, qz (l ++ [c]) = qz l ++ tok c
  | [] => by simp [qz]
  | d :: l => by simp [qz, qz_snoc c l]

theorem tok_len (c : UInt8) : (tok c).length ≤ 2 := by unfold tok; split <;> simp
theorem qz_len : ∀ l, (qz l).length ≤ 2 * l.length
  | [] => by simp [qz]
  | c :: l => by
    have := qz_len l
    have := tok_len c
    simp [qz]
    omega

theorem plain_ne {c : UInt8} (h : isMeta c.toNat = false) : c ≠ 92 ∧ c ≠ 91 ∧ c ≠ 93 ∧ c ≠ 94 ∧ c ≠ 40 ∧ c ≠ 41 ∧ c ≠ 124 := by
  refine ⟨?_, ?_, ?_, ?_, ?_, ?_, ?_⟩ <;> (intro e; subst e; revert h; decide)
theorem meta_ne {c : UInt8} (h : isMeta c.toNat = true) : c ≠ 81 := by intro e; subst e; revert h; decide

/-! ### The scan of a bracket's members, and the scan of a pattern: over what is left to read -/
def ClsN : Nat → List UInt8 → List UInt8 → Prop
  | 0, _, _ => False
  | n + 1, X, X' => X = 93 :: X' ∨ (∃ c l, X = c :: l ∧ c ≠ 92 ∧ c ≠ 91 ∧ c ≠ 93 ∧ ClsN n l X') ∨ (∃ c l, X = 92 :: c :: l ∧ ClsN n l X')
def Cls (X X' : List UInt8) : Prop := ∃ n, ClsN n X X'

theorem Cls.fin (l : List UInt8) : Cls (93 :: l) l := ⟨1, Or.inl rfl⟩
theorem Cls.plain (c : UInt8) (l l' : List UInt8) (h1 : c ≠ 92) (h2 : c ≠ 91) (h3 : c ≠ 93) (h : Cls l l') : Cls (c :: l) l' := by
  obtain ⟨n, h⟩ := h
  exact ⟨n + 1, Or.inr (Or.inl ⟨c, l, rfl, h1, h2, h3, h⟩)⟩
theorem Cls.esc (c : UInt8) (l l' : List UInt8) (h : Cls l l') : Cls (92 :: c :: l) l' := by
  obtain ⟨n, h⟩ := h
  exact ⟨n + 1, Or.inr (Or.inr ⟨c, l, rfl, h⟩)⟩
theorem Cls.out {X X' : List UInt8} (h : Cls X X') : X = 93 :: X' ∨ (∃ c l, X = c :: l ∧ c ≠ 92 ∧ c ≠ 91 ∧ c ≠ 93 ∧ Cls l X') ∨ (∃ c l, X = 92 :: c :: l ∧ Cls l X') := by
  obtain ⟨n, h⟩ := h
  cases n with
  | zero => exact h.elim
  | succ n =>
    rcases h with h | ⟨c, l, e, h1, h2, h3, h⟩ | ⟨c, l, e, h⟩
    · exact Or.inl h
    · exact Or.inr (Or.inl ⟨c, l, e, h1, h2, h3, n, h⟩)
    · exact Or.inr (Or.inr ⟨c, l, e, n, h⟩)

def RunN : Nat → List UInt8 → Int → Bool → Prop
  | 0, _, _, _ => False
  | n + 1, X, d, r =>
    (X = [] ∧ r = false) ∨
    (∃ c l, X = c :: l ∧ c ≠ 92 ∧ c ≠ 91 ∧ c ≠ 40 ∧ c ≠ 41 ∧ c ≠ 124 ∧ RunN n l d r) ∨
    (∃ c l, X = 92 :: c :: l ∧ c ≠ 81 ∧ RunN n l d r) ∨
    (∃ l, X = 40 :: l ∧ RunN n l (d + 1) r) ∨
    (∃ l, X = 41 :: l ∧ RunN n l (d - 1) r) ∨
    (∃ l, X = 124 :: l ∧ d = 0 ∧ r = true) ∨
    (∃ l, X = 124 :: l ∧ d ≠ 0 ∧ RunN n l d r) ∨
    (∃ c l l', X = 91 :: c :: l ∧ c ≠ 94 ∧ c ≠ 93 ∧ Cls (c :: l) l' ∧ RunN n l' d r)
def Run (X : List UInt8) (d : Int) (r : Bool) : Prop := ∃ n, RunN n X d r

theorem Run.stop (d : Int) : Run [] d false := ⟨1, Or.inl ⟨rfl, rfl⟩⟩
theorem Run.plain (c : UInt8) (l : List UInt8) (d : Int) (r : Bool) (h1 : c ≠ 92) (h2 : c ≠ 91) (h3 : c ≠ 40) (h4 : c ≠ 41) (h5 : c ≠ 124) (h : Run l d r) : Run (c :: l) d r := by
  obtain ⟨n, h⟩ := h
  exact ⟨n + 1, Or.inr (Or.inl ⟨c, l, rfl, h1, h2, h3, h4, h5, h⟩)⟩
theorem Run.esc (c : UInt8) (l : List UInt8) (d : Int) (r : Bool) (h1 : c ≠ 81) (h : Run l d r) : Run (92 :: c :: l) d r := by
  obtain ⟨n, h⟩ := h
  exact ⟨n + 1, Or.inr (Or.inr (Or.inl ⟨c, l, rfl, h1, h⟩))⟩
theorem Run.opens (l : List UInt8) (d : Int) (r : Bool) (h : Run l (d + 1) r) : Run (40 :: l) d r := by
  obtain ⟨n, h⟩ := h
  exact ⟨n + 1, Or.inr (Or.inr (Or.inr (Or.inl ⟨l, rfl, h⟩)))⟩
theorem Run.closes (l : List UInt8) (d : Int) (r : Bool) (h : Run l (d - 1) r) : Run (41 :: l) d r := by
  obtain ⟨n, h⟩ := h
  exact ⟨n + 1, Or.inr (Or.inr (Or.inr (Or.inr (Or.inl ⟨l, rfl, h⟩))))⟩
theorem Run.found (l : List UInt8) : Run (124 :: l) 0 true := ⟨1, Or.inr (Or.inr (Or.inr (Or.inr (Or.inr (Or.inl ⟨l, rfl, rfl, rfl⟩)))))⟩
theorem Run.bar (l : List UInt8) (d : Int) (r : Bool) (h1 : d ≠ 0) (h : Run l d r) : Run (124 :: l) d r := by
  obtain ⟨n, h⟩ := h
  exact ⟨n + 1, Or.inr (Or.inr (Or.inr (Or.inr (Or.inr (Or.inr (Or.inl ⟨l, rfl, h1, h⟩))))))⟩
theorem Run.cls (c : UInt8) (l l' : List UInt8) (d : Int) (r : Bool) (h1 : c ≠ 94) (h2 : c ≠ 93) (h3 : Cls (c :: l) l') (h : Run l' d r) : Run (91 :: c :: l) d r := by
  obtain ⟨n, h⟩ := h
  exact ⟨n + 1, Or.inr (Or.inr (Or.inr (Or.inr (Or.inr (Or.inr (Or.inr ⟨c, l, l', rfl, h1, h2, h3, h⟩))))))⟩
theorem Run.out {X : List UInt8} {d : Int} {r : Bool} (h : Run X d r) :
    (X = [] ∧ r = false) ∨
    (∃ c l, X = c :: l ∧ c ≠ 92 ∧ c ≠ 91 ∧ c ≠ 40 ∧ c ≠ 41 ∧ c ≠ 124 ∧ Run l d r) ∨
    (∃ c l, X = 92 :: c :: l ∧ c ≠ 81 ∧ Run l d r) ∨
    (∃ l, X = 40 :: l ∧ Run l (d + 1) r) ∨
    (∃ l, X = 41 :: l ∧ Run l (d - 1) r) ∨
    (∃ l, X = 124 :: l ∧ d = 0 ∧ r = true) ∨
    (∃ l, X = 124 :: l ∧ d ≠ 0 ∧ Run l d r) ∨
    (∃ c l l', X = 91 :: c :: l ∧ c ≠ 94 ∧ c ≠ 93 ∧ Cls (c :: l) l' ∧ Run l' d r) := by
  obtain ⟨n, h⟩ := h
  cases n with
  | zero => exact h.elim
  | succ n =>
    rcases h with h | ⟨c, l, e, h1, h2, h3, h4, h5, h⟩ | ⟨c, l, e, h1, h⟩ | ⟨l, e, h⟩ | ⟨l, e, h⟩ | ⟨l, e, h1, h2⟩ | ⟨l, e, h1, h⟩ | ⟨c, l, l', e, h1, h2, h3, h⟩
    · exact Or.inl h
    · exact Or.inr (Or.inl ⟨c, l, e, h1, h2, h3, h4, h5, n, h⟩)
    · exact Or.inr (Or.inr (Or.inl ⟨c, l, e, h1, n, h⟩))
    · exact Or.inr (Or.inr (Or.inr (Or.inl ⟨l, e, n, h⟩)))
    · exact Or.inr (Or.inr (Or.inr (Or.inr (Or.inl ⟨l, e, n, h⟩))))
    · exact Or.inr (Or.inr (Or.inr (Or.inr (Or.inr (Or.inl ⟨l, e, h1, h2⟩)))))
    · exact Or.inr (Or.inr (Or.inr (Or.inr (Or.inr (Or.inr (Or.inl ⟨l, e, h1, n, h⟩))))))
    · exact Or.inr (Or.inr (Or.inr (Or.inr (Or.inr (Or.inr (Or.inr ⟨c, l, l', e, h1, h2, h3, n, h⟩))))))

/-- A quoted text ahead changes nothing. -/
theorem run_q (d : Int) (r : Bool) (X : List UInt8) (h : Run X d r) : ∀ l, Run (qz l ++ X) d r
  | [] => h
  | c :: l => by
    have ih := run_q d r X h l
    show Run ((tok c ++ qz l) ++ X) d r
    rw [List.append_assoc]
    unfold tok
    cases hm : isMeta c.toNat
    · obtain ⟨h1, h2, h3, h4, h5, h6, h7⟩ := plain_ne hm
      exact Run.plain c _ d r h1 h2 h5 h6 h7 ih
    · exact Run.esc c _ d r (meta_ne hm) ih

theorem cls_q (X X' : List UInt8) (h : Cls X X') : ∀ l, Cls (qz l ++ X) X'
  | [] => h
  | c :: l => by
    have ih := cls_q X X' h l
    show Cls ((tok c ++ qz l) ++ X) X'
    rw [List.append_assoc]
    unfold tok
    cases hm : isMeta c.toNat
    · obtain ⟨h1, h2, h3, h4, h5, h6, h7⟩ := plain_ne hm
      exact Cls.plain c _ X' h1 h2 h3 ih
    · exact Cls.esc c _ X' ih

/-- What a bracket over a quoted text begins with. -/
theorem first_q (x : UInt8) (X : List UInt8) (h1 : x ≠ 94) (h2 : x ≠ 93) : ∀ l, ∃ c m, qz l ++ x :: X = c :: m ∧ c ≠ 94 ∧ c ≠ 93
  | [] => ⟨x, X, rfl, h1, h2⟩
  | c :: l => by
    show ∃ c' m, (tok c ++ qz l) ++ x :: X = c' :: m ∧ c' ≠ 94 ∧ c' ≠ 93
    unfold tok
    cases hm : isMeta c.toNat
    · obtain ⟨g1, g2, g3, g4, g5, g6, g7⟩ := plain_ne hm
      exact ⟨c, qz l ++ x :: X, rfl, g4, g3⟩
    · exact ⟨92, c :: (qz l ++ x :: X), rfl, by decide, by decide⟩

theorem said1 (t : List UInt8) : Run (qz t) 0 false := by
  have := run_q 0 false [] (Run.stop 0) t
  simpa using this
theorem said2 (t u : List UInt8) : Run (qz t ++ 124 :: qz u) 0 true := run_q 0 true _ (Run.found _) t
theorem said3 (t u : List UInt8) : Run (40 :: (qz t ++ 41 :: 124 :: qz u)) 0 true := by
  refine Run.opens _ _ _ (run_q _ true _ (Run.closes _ _ _ ?_) t)
  exact Run.found _
theorem said4 (t u : List UInt8) : Run (40 :: (qz t ++ 124 :: (qz u ++ [41]))) 0 false := by
  refine Run.opens _ _ _ (run_q _ false _ (Run.bar _ _ _ (by decide) ?_) t)
  exact run_q _ false _ (Run.closes _ _ _ (Run.stop _)) u
theorem said5 (t u : List UInt8) : Run (qz t ++ 92 :: 124 :: qz u) 0 false := run_q _ false _ (Run.esc _ _ _ _ (by decide) (said1 u)) t
theorem said6 (t u : List UInt8) : Run (91 :: (qz t ++ 124 :: (qz u ++ [93]))) 0 false := by
  obtain ⟨c, m, he, h1, h2⟩ := first_q 124 (qz u ++ [93]) (by decide) (by decide) t
  have hc : Cls (qz t ++ 124 :: (qz u ++ [93])) [] := cls_q _ _ (Cls.plain _ _ _ (by decide) (by decide) (by decide) (cls_q _ _ (Cls.fin _) u)) t
  rw [he] at hc ⊢
  exact Run.cls c m [] 0 false h1 h2 hc (Run.stop 0)

end Go.Proofs.Qxb6603118a.Pl

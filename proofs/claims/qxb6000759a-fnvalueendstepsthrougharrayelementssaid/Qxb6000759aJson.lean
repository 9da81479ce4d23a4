/-
  Plain laws, no Go in sight: a scanner over bytes (integers 0..255) and what it says of JSON values.
-/
namespace Go.Proofs.Qxb6000759a.Js

/-- one byte of a string's inside: mode 1 = inside, mode 2 = just behind a backslash; 0 would be behind the closing quote -/
def inStr (m : Nat) (x : Int) : Nat :=
  if m = 2 then 1 else if x = 34 then 0 else if x = 92 then 2 else 1

/-- the scanner: depth and mode (0: outside strings). 'none': a closer at depth 0 or 1. -/
def scan : List Int → Nat → Nat → Option (Nat × Nat)
  | [], d, m => some (d, m)
  | x :: l, d, m =>
    if m = 0 then
      if x = 34 then scan l d 1
      else if x = 123 ∨ x = 91 then scan l (d + 1) 0
      else if x = 125 ∨ x = 93 then (if d ≤ 1 then none else scan l (d - 1) 0)
      else scan l d 0
    else scan l d (inStr m x)

theorem scan_append (a b : List Int) (d m d' m' : Nat) (h : scan a d m = some (d', m')) : scan (a ++ b) d m = scan b d' m' := by
  induction a generalizing d m with
  | nil => simp [scan] at h; obtain ⟨rfl, rfl⟩ := h; rfl
  | cons x l ih =>
    simp only [scan, List.cons_append] at h ⊢
    split at h
    · rename_i hm
      rw [if_pos hm]
      split at h
      · rename_i h1; rw [if_pos h1]; exact ih _ _ h
      · rename_i h1
        rw [if_neg h1]
        split at h
        · rename_i h2; rw [if_pos h2]; exact ih _ _ h
        · rename_i h2
          rw [if_neg h2]
          split at h
          · rename_i h3
            rw [if_pos h3]
            split at h
            · cases h
            · rename_i h4; rw [if_neg h4]; exact ih _ _ h
          · rename_i h3; rw [if_neg h3]; exact ih _ _ h
    · rename_i hm; rw [if_neg hm]; exact ih _ _ h

theorem scan_shift (a : List Int) (k d m d' m' : Nat) (h : scan a d m = some (d', m')) : scan a (d + k) m = some (d' + k, m') := by
  induction a generalizing d m with
  | nil => simp [scan] at h ⊢; omega
  | cons x l ih =>
    simp only [scan] at h ⊢
    split at h
    · rename_i hm
      rw [if_pos hm]
      split at h
      · rename_i h1; rw [if_pos h1]; exact ih _ _ h
      · rename_i h1
        rw [if_neg h1]
        split at h
        · rename_i h2; rw [if_pos h2, show d + k + 1 = d + 1 + k from by omega]; exact ih _ _ h
        · rename_i h2
          rw [if_neg h2]
          split at h
          · rename_i h3
            rw [if_pos h3]
            split at h
            · cases h
            · rename_i h4; rw [if_neg (by omega), show d + k - 1 = d - 1 + k from by omega]; exact ih _ _ h
          · rename_i h3; rw [if_neg h3]; exact ih _ _ h
    · rename_i hm; rw [if_neg hm]; exact ih _ _ h

/-- the inside of a string: no quote that is not escaped, and no backslash left open -/
def inside : List Int → Nat → Bool
  | [], m => m == 1
  | x :: l, m => if m = 2 then inside l 1 else if x = 34 then false else inside l (if x = 92 then 2 else 1)

theorem inside_scan (b : List Int) (d m : Nat) (hm : m = 1 ∨ m = 2) (h : inside b m = true) : scan b d m = some (d, 1) := by
  induction b generalizing m with
  | nil => simp [inside] at h; simp [scan, h]
  | cons x l ih =>
    simp only [inside] at h
    simp only [scan]
    rw [if_neg (by omega)]
    unfold inStr
    rcases hm with rfl | rfl
    · simp only [show ((1 : Nat) = 2) = False from by simp, if_false] at h ⊢
      by_cases h34 : x = 34
      · simp [h34] at h
      · simp only [h34, if_false] at h ⊢
        by_cases h92 : x = 92
        · simp only [h92, if_true] at h ⊢; exact ih 2 (by omega) h
        · simp only [h92, if_false] at h ⊢; exact ih 1 (by omega) h
    · simp only [if_true] at h ⊢; exact ih 1 (by omega) h

theorem inside_append (a b : List Int) (m : Nat) (hm : m = 1 ∨ m = 2) (h : inside a m = true) (hb : inside b 1 = true) : inside (a ++ b) m = true := by
  induction a generalizing m with
  | nil => simp [inside] at h; subst h; exact hb
  | cons x l ih =>
    simp only [inside, List.cons_append] at h ⊢
    rcases hm with rfl | rfl
    · simp only [show ((1 : Nat) = 2) = False from by simp, if_false] at h ⊢
      by_cases h34 : x = 34
      · simp [h34] at h
      · simp only [h34, if_false] at h ⊢
        by_cases h92 : x = 92
        · simp only [h92, if_true] at h ⊢; exact ih 2 (by omega) h
        · simp only [h92, if_false] at h ⊢; exact ih 1 (by omega) h
    · simp only [if_true] at h ⊢; exact ih 1 (by omega) h

/-- what the scanner passes inside a string and leaves, parts into an inside, the quote, and the rest -/
theorem scan_str (u : List Int) (d m e : Nat) (hm : m = 1 ∨ m = 2) (h : scan u d m = some (e, 0)) :
    ∃ body rest, u = body ++ 34 :: rest ∧ inside body m = true ∧ scan rest d 0 = some (e, 0) := by
  induction u generalizing m with
  | nil => simp [scan] at h; omega
  | cons x l ih =>
    simp only [scan] at h
    rw [if_neg (by omega)] at h
    unfold inStr at h
    rcases hm with rfl | rfl
    · simp only [show ((1 : Nat) = 2) = False from by simp, if_false] at h
      by_cases h34 : x = 34
      · simp only [h34, if_true] at h
        exact ⟨[], l, by simp [h34], by simp [inside], h⟩
      · simp only [h34, if_false] at h
        by_cases h92 : x = 92
        · simp only [h92, if_true] at h
          obtain ⟨b, r, rfl, hb, hr⟩ := ih 2 (by omega) h
          exact ⟨x :: b, r, rfl, by simp [inside, h92, hb], hr⟩
        · simp only [h92, if_false] at h
          obtain ⟨b, r, rfl, hb, hr⟩ := ih 1 (by omega) h
          exact ⟨x :: b, r, rfl, by simp [inside, h34, h92, hb], hr⟩
    · simp only [if_true] at h
      obtain ⟨b, r, rfl, hb, hr⟩ := ih 1 (by omega) h
      exact ⟨x :: b, r, rfl, by simp [inside, hb], hr⟩

/-- a byte that may stand in a number or a literal -/
def plain (x : Int) : Bool := !(x == 34 || x == 44 || x == 91 || x == 93 || x == 123 || x == 125 || x == 32 || x == 9 || x == 10 || x == 13)

/-- a JSON value as the encoder writes one -/
def IsVal (v : List Int) : Prop :=
  (∃ body, v = 34 :: (body ++ [34]) ∧ inside body 1 = true) ∨
  (∃ x l, v = x :: l ∧ ∀ y ∈ x :: l, plain y = true) ∨
  (∃ o u c, v = o :: u ++ [c] ∧ (o = 123 ∨ o = 91) ∧ (c = 125 ∨ c = 93) ∧ scan (o :: u) 0 0 = some (1, 0))

theorem scan_plain (l : List Int) (d : Nat) (h : ∀ y ∈ l, plain y = true) : scan l d 0 = some (d, 0) := by
  induction l with
  | nil => rfl
  | cons x l ih =>
    have hx := h x (by simp)
    simp [plain] at hx
    simp only [scan, if_true]
    rw [if_neg (by omega), if_neg (by omega), if_neg (by omega)]
    exact ih fun y hy => h y (by simp [hy])

theorem scan_val (v : List Int) (d : Nat) (hd : 1 ≤ d) (h : IsVal v) : scan v d 0 = some (d, 0) := by
  rcases h with ⟨body, rfl, hb⟩ | ⟨x, l, rfl, hp⟩ | ⟨o, u, c, rfl, ho, hc, hs⟩
  · simp only [scan, if_true]
    rw [scan_append _ _ _ _ _ _ (inside_scan body d 1 (by omega) hb)]
    simp [scan, inStr]
  · exact scan_plain _ _ hp
  · have := scan_shift _ d _ _ _ _ hs
    rw [Nat.zero_add] at this
    rw [scan_append _ _ _ _ _ _ this]
    have h34 : ¬ c = 34 := by omega
    have h2 : ¬ (c = 123 ∨ c = 91) := by omega
    simp only [scan, if_true, h34, if_false, h2, hc]
    rw [if_neg (by omega)]
    simp

/-- the whole array [v1,v2] is a container -/
theorem array_val (a b : List Int) (ha : IsVal a) (hb : IsVal b) : IsVal (91 :: (a ++ 44 :: (b ++ [93]))) := by
  refine .inr (.inr ⟨91, a ++ 44 :: b, 93, by simp, .inr rfl, .inr rfl, ?_⟩)
  have h1 : scan (91 :: (a ++ 44 :: b)) 0 0 = scan (a ++ 44 :: b) 1 0 := by simp [scan]
  rw [h1, scan_append _ _ _ _ _ _ (scan_val a 1 (by omega) ha)]
  have h2 : scan (44 :: b) 1 0 = scan b 1 0 := by simp [scan]
  rw [h2]
  exact scan_val b 1 (by omega) hb

theorem IsVal.ne_nil {v : List Int} (h : IsVal v) : v ≠ [] := by
  rcases h with ⟨body, rfl, hb⟩ | ⟨x, l, rfl, hp⟩ | ⟨o, u, c, rfl, ho, hc, hs⟩ <;> simp

/-! ### The run of backslashes ahead of a quote -/
def mode : List Int → Nat → Nat
  | [], m => m
  | x :: l, m => mode l (if m = 2 then 1 else if x = 92 then 2 else 1)

theorem mode_snoc (t : List Int) (x : Int) (m : Nat) : mode (t ++ [x]) m = if mode t m = 2 then 1 else if x = 92 then 2 else 1 := by
  induction t generalizing m with
  | nil => rfl
  | cons y l ih => simp only [List.cons_append, mode]; exact ih _

theorem mode_12 (t : List Int) (m : Nat) (hm : m = 1 ∨ m = 2) : mode t m = 1 ∨ mode t m = 2 := by
  induction t generalizing m with
  | nil => exact hm
  | cons y l ih =>
    simp only [mode]
    apply ih
    split
    · exact .inl rfl
    · split
      · exact .inr rfl
      · exact .inl rfl

/-- the run of backslashes at the end of '34 :: t' -/
theorem run_rev (s : List Int) : ∃ r, r ≤ s.length ∧ (∀ m, m < r → (34 :: s.reverse).getD (s.length - m) 0 = 92) ∧ (34 :: s.reverse).getD (s.length - r) 0 ≠ 92 ∧
    mode s.reverse 1 = (if r % 2 = 1 then 2 else 1) := by
  induction s with
  | nil => exact ⟨0, by simp, by simp, by simp, by simp [mode]⟩
  | cons x s ih =>
    obtain ⟨r, hr, h1, h2, h3⟩ := ih
    have hlow : ∀ j, j ≤ s.length → (34 :: (x :: s).reverse).getD j 0 = (34 :: s.reverse).getD j 0 := by
      intro j hj
      rw [List.reverse_cons, ← List.cons_append, List.getD_eq_getElem?_getD, List.getD_eq_getElem?_getD, List.getElem?_append_left (by simp; omega)]
    have htop : (34 :: (x :: s).reverse).getD (s.length + 1) 0 = x := by
      rw [List.reverse_cons, ← List.cons_append, List.getD_eq_getElem?_getD, List.getElem?_append_right (by simp)]
      simp
    by_cases hx : x = 92
    · refine ⟨r + 1, by simp; omega, ?_, ?_, ?_⟩
      · intro m hm
        cases m with
        | zero => rw [List.length_cons, Nat.sub_zero, htop]; exact hx
        | succ m => rw [List.length_cons, show s.length + 1 - (m + 1) = s.length - m from by omega, hlow _ (by omega)]; exact h1 m (by omega)
      · rw [List.length_cons, show s.length + 1 - (r + 1) = s.length - r from by omega, hlow _ (by omega)]; exact h2
      · rw [List.reverse_cons, mode_snoc, h3]
        by_cases hr2 : r % 2 = 1
        · rw [if_pos hr2, if_pos rfl, if_neg (by omega)]
        · rw [if_neg hr2, if_neg (by omega), if_pos hx, if_pos (by omega)]
    · refine ⟨0, by omega, by intro m hm; omega, ?_, ?_⟩
      · rw [List.length_cons, Nat.sub_zero, htop]; exact hx
      · rw [List.reverse_cons, mode_snoc]
        simp [hx]

theorem run_of (t : List Int) : ∃ r, r ≤ t.length ∧ (∀ m, m < r → (34 :: t).getD (t.length - m) 0 = 92) ∧ (34 :: t).getD (t.length - r) 0 ≠ 92 ∧
    mode t 1 = (if r % 2 = 1 then 2 else 1) := by
  have := run_rev t.reverse
  simpa using this

theorem inside_mode (t : List Int) (m : Nat) (hm : m = 1 ∨ m = 2) (h : inside t m = true) (h34 : 34 ∉ t) : mode t m = 1 := by
  induction t generalizing m with
  | nil => simp [inside] at h; simp [mode, h]
  | cons x l ih =>
    simp only [List.mem_cons, not_or] at h34
    simp only [inside] at h
    simp only [mode]
    rcases hm with rfl | rfl
    · have hx : ¬ x = 34 := fun e => h34.1 e.symm
      simp only [show ((1 : Nat) = 2) = False from by simp, if_false, hx] at h ⊢
      exact ih _ (by split <;> omega) h h34.2
    · simp only [if_true] at h ⊢; exact ih 1 (by omega) h h34.2

theorem inside_quote (t b : List Int) (m : Nat) (hm : m = 1 ∨ m = 2) (h : inside (t ++ 34 :: b) m = true) (h34 : 34 ∉ t) : mode t m = 2 ∧ inside b 1 = true := by
  induction t generalizing m with
  | nil =>
    simp only [List.nil_append, inside] at h
    rcases hm with rfl | rfl
    · simp at h
    · exact ⟨rfl, by simpa using h⟩
  | cons x l ih =>
    simp only [List.mem_cons, not_or] at h34
    simp only [List.cons_append, inside] at h
    simp only [mode]
    rcases hm with rfl | rfl
    · have hx : ¬ x = 34 := fun e => h34.1 e.symm
      simp only [show ((1 : Nat) = 2) = False from by simp, if_false, hx] at h ⊢
      exact ih _ (by split <;> omega) h h34.2
    · simp only [if_true] at h ⊢; exact ih 1 (by omega) h h34.2

/-- a list has no quote, or parts at its first -/
theorem first_quote (l : List Int) : 34 ∉ l ∨ ∃ t b, l = t ++ 34 :: b ∧ 34 ∉ t := by
  induction l with
  | nil => exact .inl (by simp)
  | cons x l ih =>
    by_cases hx : x = 34
    · exact .inr ⟨[], l, by simp [hx], by simp⟩
    · rcases ih with h | ⟨t, b, rfl, h⟩
      · exact .inl (by simp only [List.mem_cons, not_or]; exact ⟨fun e => hx e.symm, h⟩)
      · exact .inr ⟨x :: t, b, rfl, by simp only [List.mem_cons, not_or]; exact ⟨fun e => hx e.symm, h⟩⟩

end Go.Proofs.Qxb6000759a.Js

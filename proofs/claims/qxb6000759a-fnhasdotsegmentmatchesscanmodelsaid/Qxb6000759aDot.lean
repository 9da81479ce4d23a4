/-
  Plain laws on dot-segments, no Go in sight.
-/
import Derived.Lib.IndexAny
namespace Go.Proofs.Qxb6000759a.Dot

def sep (c : UInt8) : Bool := c == 47 || c == 92
def term (c : UInt8) : Bool := sep c || c == 59
/-- does a dot-segment stand at the head of r? -/
def dot (r : List UInt8) : Bool := r.takeWhile (fun c => !term c) == [46] || r.takeWhile (fun c => !term c) == [46, 46]
/-- is there a dot-segment in r, where b says whether a segment starts at r's head -/
def anyDot : Bool → List UInt8 → Bool
  | _, [] => false
  | b, c :: r => (b && dot (c :: r)) || anyDot (sep c) r

theorem anyDot_skip (seg r : List UInt8) (h : seg.all (fun c => !sep c) = true) : anyDot false (seg ++ r) = anyDot false r := by
  induction seg with
  | nil => rfl
  | cons c seg ih =>
    simp only [List.all_cons, Bool.and_eq_true, Bool.not_eq_true'] at h
    simp only [List.cons_append, anyDot, Bool.false_and, Bool.false_or, h.1]
    exact ih h.2

/-- a segment, its separator, the rest -/
theorem anyDot_seg (seg r : List UInt8) (s : UInt8) (h : seg.all (fun c => !sep c) = true) (hs : sep s = true) : anyDot true (seg ++ s :: r) = (dot (seg ++ s :: r) || anyDot true r) := by
  cases seg with
  | nil => simp [anyDot, hs]
  | cons c seg =>
    simp only [List.all_cons, Bool.and_eq_true, Bool.not_eq_true'] at h
    simp only [List.cons_append, anyDot, Bool.true_and, h.1]
    rw [anyDot_skip seg (s :: r) h.2]
    simp [anyDot, hs]

/-- the last segment -/
theorem anyDot_last (seg : List UInt8) (h : seg.all (fun c => !sep c) = true) (hne : seg ≠ []) : anyDot true seg = dot seg := by
  cases seg with
  | nil => exact absurd rfl hne
  | cons c seg =>
    simp only [List.all_cons, Bool.and_eq_true, Bool.not_eq_true'] at h
    simp only [anyDot, Bool.true_and, h.1]
    have := anyDot_skip seg [] h.2
    rw [List.append_nil] at this
    rw [this]
    simp [anyDot]

/-- what the code looks at: the segment, cut at its first ';' -/
theorem take_take (seg r : List UInt8) (s : UInt8) (h : seg.all (fun c => !sep c) = true) (hs : sep s = true) : (seg ++ s :: r).takeWhile (fun c => !term c) = seg.takeWhile (fun c => c != 59) := by
  induction seg with
  | nil => simp [term, hs]
  | cons c seg ih =>
    simp only [List.all_cons, Bool.and_eq_true, Bool.not_eq_true'] at h
    simp only [List.cons_append, List.takeWhile_cons]
    have e : (!term c) = (c != 59) := by unfold term; rw [h.1]; simp [bne]
    rw [e, ih h.2]
theorem take_last (seg : List UInt8) (h : seg.all (fun c => !sep c) = true) : seg.takeWhile (fun c => !term c) = seg.takeWhile (fun c => c != 59) := by
  induction seg with
  | nil => rfl
  | cons c seg ih =>
    simp only [List.all_cons, Bool.and_eq_true, Bool.not_eq_true'] at h
    simp only [List.takeWhile_cons]
    have e : (!term c) = (c != 59) := by unfold term; rw [h.1]; simp [bne]
    rw [e, ih h.2]

theorem dot_has (r : List UInt8) (h : (46 : UInt8) ∉ r) : dot r = false := by
  have key : ∀ x, x ∈ r.takeWhile (fun c => !term c) → x ∈ r := fun x hx => (List.takeWhile_prefix _).subset hx
  unfold dot
  rw [Bool.or_eq_false_iff]
  constructor
  · rw [beq_eq_false_iff_ne]
    intro e
    exact h (key 46 (by rw [e]; simp))
  · rw [beq_eq_false_iff_ne]
    intro e
    exact h (key 46 (by rw [e]; simp))

theorem anyDot_has (b : Bool) (r : List UInt8) (h : (46 : UInt8) ∉ r) : anyDot b r = false := by
  induction r generalizing b with
  | nil => rfl
  | cons c r ih =>
    simp only [anyDot, dot_has _ h, Bool.and_false, Bool.false_or]
    exact ih _ (fun hm => h (by simp [hm]))

/-- where the first of some bytes stands -/
theorem indexAny_parts (l chars : List UInt8) : (Lib.indexAny l chars = -1 ∧ l.all (fun c => !chars.contains c) = true) ∨
    ∃ a s r, l = a ++ s :: r ∧ Lib.indexAny l chars = a.length ∧ a.all (fun c => !chars.contains c) = true ∧ chars.contains s = true := by
  induction l with
  | nil => exact .inl ⟨rfl, rfl⟩
  | cons b l ih =>
    unfold Lib.indexAny
    by_cases hb : chars.contains b = true
    · exact .inr ⟨[], b, l, rfl, by rw [if_pos hb]; rfl, rfl, hb⟩
    · have hb' : chars.contains b = false := by simpa using hb
      rcases ih with ⟨e, ha⟩ | ⟨a, s, r, rfl, e, ha, hs⟩
      · refine .inl ⟨by rw [if_neg hb, e]; rfl, ?_⟩
        rw [List.all_cons, hb', ha]; rfl
      · refine .inr ⟨b :: a, s, r, rfl, ?_, ?_, hs⟩
        · rw [if_neg hb, e, if_neg (by simp)]; simp
        · rw [List.all_cons, hb', ha]; rfl

theorem sep_contains (c : UInt8) : ([47, 92] : List UInt8).contains c = sep c := by
  unfold sep
  simp only [List.contains_cons, List.contains_nil, Bool.or_false]
theorem sep_all {l : List UInt8} (h : l.all (fun c => !([47, 92] : List UInt8).contains c) = true) : l.all (fun c => !sep c) = true := by
  simpa only [sep_contains] using h
theorem sep_one {c : UInt8} (h : ([47, 92] : List UInt8).contains c = true) : sep c = true := by
  rw [← sep_contains]; exact h

theorem indexByte_parts (l : List UInt8) (c : UInt8) : (Lib.indexByte l c = -1 ∧ c ∉ l ∧ l.takeWhile (fun x => x != c) = l) ∨
    ∃ a r, l = a ++ c :: r ∧ Lib.indexByte l c = a.length ∧ l.takeWhile (fun x => x != c) = a := by
  induction l with
  | nil => exact .inl ⟨rfl, by simp, rfl⟩
  | cons b l ih =>
    unfold Lib.indexByte
    by_cases hb : b = c
    · subst hb
      exact .inr ⟨[], l, rfl, by simp, by simp⟩
    · have hb' : (b == c) = false := beq_eq_false_iff_ne.2 hb
      have hbn : (b != c) = true := bne_iff_ne.2 hb
      rcases ih with ⟨e, hm, ht⟩ | ⟨a, r, rfl, e, ht⟩
      · refine .inl ⟨by rw [hb', e]; rfl, ?_, by rw [List.takeWhile_cons, hbn, ht]; rfl⟩
        simp only [List.mem_cons, not_or]
        exact ⟨fun h => hb h.symm, hm⟩
      · refine .inr ⟨b :: a, r, rfl, ?_, by rw [List.takeWhile_cons, hbn, ht]; rfl⟩
        rw [hb', e, if_neg (by simp), if_neg (by simp)]; simp

end Go.Proofs.Qxb6000759a.Dot

/-
  What one round of encodeValue does to the text and to the stack: plain laws; and the three rows of the call's own under one word.
-/
import Derived.Test.Qxb6000759aOwn
import Derived.Test.Qxb6000759aJson
namespace Go.Proofs.Qxb6000759a
open Go.RowKit

/-! ### Plain -/
/-- the state between two rounds -/
structure Good (out st : List Int) (done : Bool) : Prop where
  rg : ∀ x ∈ out, 0 ≤ x ∧ x < 256
  stk : ∀ x ∈ st, x = 91 ∨ x = 123
  nd : done = false → Js.scan out 0 0 = some (st.length, 0) ∧ (st = [] → out = []) ∧ (st ≠ [] → ∃ o u, out = o :: u ∧ (o = 123 ∨ o = 91))
  dn : done = true → st = [] ∧ Js.IsVal out

def neutral (x : Int) : Bool := !(x == 34 || x == 91 || x == 93 || x == 123 || x == 125) && decide (0 ≤ x) && decide (x < 256)

theorem scan_neutral (l : List Int) (d : Nat) (h : l.all neutral = true) : Js.scan l d 0 = some (d, 0) := by
  induction l with
  | nil => rfl
  | cons x l ih =>
    simp only [List.all_cons, Bool.and_eq_true] at h
    have hx := h.1
    simp [neutral] at hx
    simp only [Js.scan, if_true]
    rw [if_neg (by omega), if_neg (by omega), if_neg (by omega)]
    exact ih h.2

theorem range_neutral (l : List Int) (h : l.all neutral = true) : ∀ x ∈ l, 0 ≤ x ∧ x < 256 := by
  intro x hx
  have := List.all_eq_true.1 h x hx
  simp [neutral] at this
  omega

theorem Good.start : Good [] [] false := ⟨by simp, by simp, fun _ => ⟨rfl, fun _ => rfl, fun h => absurd rfl h⟩, fun h => by cases h⟩

theorem Good.more {out st p : List Int} (h : Good out st false) (hs : st ≠ []) (hp : ∀ x ∈ p, 0 ≤ x ∧ x < 256) (hsc : Js.scan p st.length 0 = some (st.length, 0)) : Good (out ++ p) st false := by
  obtain ⟨h1, h2, h3⟩ := h.nd rfl
  refine ⟨fun x hx => ?_, h.stk, fun _ => ⟨?_, fun e => absurd e hs, fun _ => ?_⟩, fun e => by cases e⟩
  · rcases List.mem_append.1 hx with hx | hx
    · exact h.rg x hx
    · exact hp x hx
  · rw [Js.scan_append _ _ _ _ _ _ h1]; exact hsc
  · obtain ⟨o, u, rfl, ho⟩ := h3 hs
    exact ⟨o, u ++ p, rfl, ho⟩

theorem Good.ws {out st p : List Int} (h : Good out st false) (hs : st ≠ []) (hp : p.all neutral = true) : Good (out ++ p) st false :=
  h.more hs (range_neutral p hp) (scan_neutral p _ hp)

/-- a whole value written inside a container -/
theorem Good.val {out st v : List Int} (h : Good out st false) (hs : st ≠ []) (hr : ∀ x ∈ v, 0 ≤ x ∧ x < 256) (hv : Js.IsVal v) : Good (out ++ v) st false :=
  h.more hs hr (Js.scan_val v _ (by cases st with
    | nil => exact absurd rfl hs
    | cons _ _ => simp) hv)

/-- a whole value written at the top -/
theorem Good.top {out v : List Int} (h : Good out [] false) (hr : ∀ x ∈ v, 0 ≤ x ∧ x < 256) (hv : Js.IsVal v) : Good (out ++ v) [] true := by
  obtain ⟨_, h2, _⟩ := h.nd rfl
  have := h2 rfl
  subst this
  exact ⟨by simpa using hr, by simp, (fun e => by cases e), fun _ => ⟨rfl, by simpa using hv⟩⟩

/-- an opener -/
theorem Good.open_ {out st p : List Int} {o : Int} (h : Good out st false) (ho : o = 91 ∨ o = 123) (hp : p.all neutral = true) : Good (out ++ o :: p) (st ++ [o]) false := by
  obtain ⟨h1, h2, h3⟩ := h.nd rfl
  refine ⟨fun x hx => ?_, ?_, fun _ => ⟨?_, fun e => by simp at e, fun _ => ?_⟩, fun e => by cases e⟩
  · rcases List.mem_append.1 hx with hx | hx
    · exact h.rg x hx
    · rcases List.mem_cons.1 hx with rfl | hx
      · omega
      · exact range_neutral p hp x hx
  · intro x hx
    rcases List.mem_append.1 hx with hx | hx
    · exact h.stk x hx
    · simp at hx; subst hx; exact ho
  · rw [Js.scan_append _ _ _ _ _ _ h1]
    have e : Js.scan (o :: p) st.length 0 = Js.scan p (st.length + 1) 0 := by
      simp only [Js.scan, if_true]
      rw [if_neg (by omega), if_pos (by omega)]
    rw [e, scan_neutral p _ hp]
    simp
  · cases out with
    | nil => exact ⟨o, p, rfl, by omega⟩
    | cons y l =>
      obtain ⟨o', u, e, ho'⟩ := h3 (fun e => by have := h2 e; cases this)
      exact ⟨o', u ++ o :: p, by rw [e]; rfl, ho'⟩

/-- a closer -/
theorem Good.close {out st p : List Int} {x c : Int} (h : Good out (st ++ [x]) false) (hp : p.all neutral = true) (hc : c = 125 ∨ c = 93) (done : Bool) (hd : done = true ↔ st = []) : Good (out ++ (p ++ [c])) st done := by
  obtain ⟨h1, _, h3⟩ := h.nd rfl
  obtain ⟨o, u, rfl, ho⟩ := h3 (by simp)
  have hsc : Js.scan (o :: u ++ p) 0 0 = some (st.length + 1, 0) := by
    rw [Js.scan_append _ _ _ _ _ _ h1, scan_neutral p _ hp]; simp
  have hrg : ∀ y ∈ o :: u ++ (p ++ [c]), 0 ≤ y ∧ y < 256 := by
    intro y hy
    rcases List.mem_append.1 hy with hy | hy
    · exact h.rg y hy
    · rcases List.mem_append.1 hy with hy | hy
      · exact range_neutral p hp y hy
      · simp at hy; omega
  refine ⟨hrg, fun y hy => h.stk y (by simp [hy]), fun hdf => ?_, fun hdt => ?_⟩
  · have hne : st ≠ [] := fun e => by have := hd.2 e; rw [hdf] at this; cases this
    refine ⟨?_, fun e => absurd e hne, fun _ => ⟨o, u ++ (p ++ [c]), rfl, ho⟩⟩
    rw [← List.append_assoc, Js.scan_append _ _ _ _ _ _ hsc]
    have hl : 0 < st.length := List.length_pos_iff.2 hne
    simp only [Js.scan, if_true]
    rw [if_neg (by omega), if_neg (by omega), if_pos (by omega), if_neg (by omega)]
    simp
  · have he := hd.1 hdt
    subst he
    refine ⟨rfl, .inr (.inr ⟨o, u ++ p, c, by simp, ho, hc, ?_⟩)⟩
    have e : o :: (u ++ p) = o :: u ++ p := rfl
    rw [e, hsc]
    rfl

theorem str_val (body : List Int) (h : Js.inside body 1 = true) : Js.IsVal (34 :: (body ++ [34])) := .inl ⟨body, rfl, h⟩
theorem str_range (body : List Int) (h : ∀ x ∈ body, 0 ≤ x ∧ x < 256) : ∀ x ∈ (34 :: (body ++ [34]) : List Int), 0 ≤ x ∧ x < 256 := by
  intro x hx
  simp only [List.mem_cons, List.mem_append, List.mem_nil_iff, or_false] at hx
  rcases hx with rfl | hx | rfl
  · omega
  · exact h x hx
  · omega

/-! ### The three rows -/
structure Inv (B : Nat) (w0 w : World) (go no co gs ns cs gf cf : Nat) (out st : List Int) (fl : List Bool) : Prop where
  bel : Below B w0 w
  o : Row 5 B w go no co (out.map (Value.int .u8))
  s : Row 5 B w gs ns cs (st.map (Value.int .u8))
  f : Row 4 B w gf ns cf (fl.map Value.bool)
  os : go ≠ gs
  of_ : go ≠ gf
  sf : gs ≠ gf

theorem Inv.lens {B : Nat} {w0 w : World} {go no co gs ns cs gf cf : Nat} {out st : List Int} {fl : List Bool} (h : Inv B w0 w go no co gs ns cs gf cf out st fl) : out.length = no ∧ st.length = ns ∧ fl.length = ns :=
  ⟨by simpa using h.o.len, by simpa using h.s.len, by simpa using h.f.len⟩

theorem Inv.out {B : Nat} {w0 w w' : World} {go no co gs ns cs gf cf go' no' co' : Nat} {out st out' : List Int} {fl : List Bool} (h : Inv B w0 w go no co gs ns cs gf cf out st fl)
    (hr : Row 5 B w' go' no' co' (out'.map (Value.int .u8))) (hg : GrewB w w' go go') : Inv B w0 w' go' no' co' gs ns cs gf cf out' st fl :=
  ⟨h.bel.trans (hg.below h.o.lt.1 h.o.2), hr, h.s.kept hg h.os.symm, h.f.kept hg h.of_.symm, (h.s.apart hg h.os.symm).symm, (h.f.apart hg h.of_.symm).symm, h.sf⟩

theorem Inv.app {B : Nat} {w0 w w' : World} {go no co gs ns cs gf cf go' no' co' : Nat} {out st : List Int} {fl : List Bool} {nv : List Value} (h : Inv B w0 w go no co gs ns cs gf cf out st fl) (news : List Int)
    (hr : Row 5 B w' go' no' co' (out.map (Value.int .u8) ++ nv)) (hg : GrewB w w' go go') (hn : nv = news.map (Value.int .u8)) : Inv B w0 w' go' no' co' gs ns cs gf cf (out ++ news) st fl :=
  h.out (by rw [List.map_append, ← hn]; exact hr) hg

/-- 'stack' and 'filled', one behind the other -/
theorem Inv.push {B : Nat} {w0 w w1 w2 : World} {go no co gs ns cs gf cf gs' cs' gf' cf' : Nat} {out st : List Int} {fl : List Bool} {x : Int} {b : Bool} (h : Inv B w0 w go no co gs ns cs gf cf out st fl)
    (hr : Row 5 B w1 gs' (ns + 1) cs' (st.map (Value.int .u8) ++ [.int .u8 x])) (hg : GrewB w w1 gs gs')
    (hr2 : Row 4 B w2 gf' (ns + 1) cf' (fl.map Value.bool ++ [.bool b])) (hg2 : GrewB w1 w2 gf gf') : Inv B w0 w2 go no co gs' (ns + 1) cs' gf' cf' out (st ++ [x]) (fl ++ [b]) := by
  have f1 := h.f.kept hg h.sf.symm
  have o1 := h.o.kept hg h.os
  have a1 : gf ≠ gs' := h.f.apart hg h.sf.symm
  have a2 : go ≠ gs' := h.o.apart hg h.os
  refine ⟨(h.bel.trans (hg.below h.s.lt.1 h.s.2)).trans (hg2.below f1.lt.1 f1.2), o1.kept hg2 h.of_, ?_, ?_, a2, o1.apart hg2 h.of_, ?_⟩
  · have := hr.kept hg2 (fun e => a1 e.symm)
    rw [List.map_append]; exact this
  · rw [List.map_append]; exact hr2
  · exact hr.apart hg2 (fun e => a1 e.symm)

theorem Inv.pop {B : Nat} {w0 w : World} {go no co gs ns cs gf cf : Nat} {out st : List Int} {fl : List Bool} {x : Int} (h : Inv B w0 w go no co gs (ns + 1) cs gf cf out (st ++ [x]) fl) :
    Inv B w0 w go no co gs ns cs gf cf out st (fl.take ns) := by
  obtain ⟨l1, l2, l3⟩ := h.lens
  have hst : st.length = ns := by simpa using l2
  have key : ∀ {e : TypeId} {g c : Nat} {xs : List Value}, Row e B w g (ns + 1) c xs → Row e B w g ns c (xs.take ns) := by
    intro e g c xs hr
    have hx := hr.len
    refine ⟨⟨by simp; omega, ?_⟩, hr.2⟩
    rcases hr.1.2 with ⟨hh, _⟩ | ⟨g', cap, cur, hv, hb, hg, h1, h2, h3, h4⟩
    · cases hh
    · cases hv
      refine .inr ⟨g, c, cur, rfl, hb, hg, by omega, h2, h3, ?_⟩
      rw [← h4, List.take_take]
      congr 1
      omega
  refine ⟨h.bel, h.o, ?_, ?_, h.os, h.of_, h.sf⟩
  · have := key h.s
    rw [List.map_append, List.take_left' (by simp [hst])] at this
    exact this
  · have := key h.f
    rw [← List.map_take] at this
    exact this

/-- 'filled[top] = true' -/
theorem Inv.fill {B : Nat} {w0 w : World} {go no co gs ns cs gf cf : Nat} {out st : List Int} {fl : List Bool} (h : Inv B w0 w go no co gs ns cs gf cf out st fl) (k : Nat) :
    Inv B w0 (w.setCell ⟨gf, k, none⟩ (.bool true)) go no co gs ns cs gf cf out st (fl.set k true) := by
  have key : ∀ {e : TypeId} {g n c : Nat} {xs : List Value}, g ≠ gf → Row e B w g n c xs → Row e B (w.setCell ⟨gf, k, none⟩ (.bool true)) g n c xs := by
    intro e g n c xs hne hr
    exact ⟨ownsRow_setCell_other hr.1 (by simp [Value.ownBlock]; exact hne) _, by simp; exact hr.2⟩
  refine ⟨h.bel.setCell (by have := h.f.lt; exact this.1) _, key h.of_ h.o, key h.sf h.s, ⟨?_, by simp; exact h.f.2⟩, h.os, h.of_, h.sf⟩
  have := h.f.1.stored k (.bool true)
  rw [List.map_set]
  exact this.1

end Go.Proofs.Qxb6000759a

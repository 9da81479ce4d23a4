/-
  (*decoder).text (13) and the thin doors (6 to 9, 11).
-/
import Derived.Test.Qxb6000929aOwn
import Derived.Test.Qxb6000929aShelf
import Derived.WalkLawsBesides
import Derived.WalkSpells
import Derived.Lib.IndexBytes
namespace Go.Proofs.Qxb6000929a
open Go.RowKit

/-- the decoder at block g holds: what is left, 'started', 'bad' -/
def Dec (w : World) (g : Nat) (r : ByteArray) (st bd : Bool) : Prop := w.heap[g]? = some (.cells #[.string r, .bool st, .bool bd] 31 (0, 0))

theorem Dec.c0 {w : World} {g : Nat} {r : ByteArray} {st bd : Bool} (h : Dec w g r st bd) : w.cell? ⟨g, 0, none⟩ = some (.string r) := cell_of_row w g 0 _ 31 (0, 0) h
theorem Dec.c1 {w : World} {g : Nat} {r : ByteArray} {st bd : Bool} (h : Dec w g r st bd) : w.cell? ⟨g, 1, none⟩ = some (.bool st) := cell_of_row w g 1 _ 31 (0, 0) h
theorem Dec.c2 {w : World} {g : Nat} {r : ByteArray} {st bd : Bool} (h : Dec w g r st bd) : w.cell? ⟨g, 2, none⟩ = some (.bool bd) := cell_of_row w g 2 _ 31 (0, 0) h
theorem Dec.free {w : World} {g : Nat} {r : ByteArray} {st bd : Bool} (h : Dec w g r st bd) (o : Nat) : w.frozen? ⟨g, o, none⟩ = false := frozen_of_row w g o _ 31 h
theorem Dec.lt {w : World} {g : Nat} {r : ByteArray} {st bd : Bool} (h : Dec w g r st bd) : g < w.heap.size := (Array.getElem?_eq_some_iff.1 h).1

/-- w' is w but for block g -/
def ButG (w w' : World) (g : Nat) : Prop := w.grownBy w' (some g) ∧ w'.heap.size = w.heap.size

theorem butG_set (w : World) (g o : Nat) (u : Value) : ButG w (w.setCell ⟨g, o, none⟩ u) g :=
  ⟨⟨rfl, rfl, rfl, by simp, fun k _ hk => heap_setCell_other w ⟨g, o, none⟩ k u (fun e => hk (by simp [e]))⟩, by simp⟩
theorem ButG.trans {w w1 w2 : World} {g : Nat} (a : ButG w w1 g) (b : ButG w1 w2 g) : ButG w w2 g :=
  ⟨⟨b.1.os.trans a.1.os, b.1.tape.trans a.1.tape, b.1.output.trans a.1.output, Nat.le_trans a.1.size b.1.size, fun k hk hne => by
    rw [b.1.block k (by have := a.1.size; omega) hne, a.1.block k hk hne]⟩, by rw [b.2, a.2]⟩
theorem ButG.refl (w : World) (g : Nat) : ButG w w g := ⟨World.grownBy.refl _ _, rfl⟩

theorem Dec.set0 {w : World} {g : Nat} {r : ByteArray} {st bd : Bool} (h : Dec w g r st bd) (r' : ByteArray) : Dec (w.setCell ⟨g, 0, none⟩ (.string r')) g r' st bd := heap_setCell_same w g 0 _ 31 _ h
theorem Dec.set1 {w : World} {g : Nat} {r : ByteArray} {st bd : Bool} (h : Dec w g r st bd) (b : Bool) : Dec (w.setCell ⟨g, 1, none⟩ (.bool b)) g r b bd := heap_setCell_same w g 1 _ 31 _ h
theorem Dec.set2 {w : World} {g : Nat} {r : ByteArray} {st bd : Bool} (h : Dec w g r st bd) (b : Bool) : Dec (w.setCell ⟨g, 2, none⟩ (.bool b)) g r st b := heap_setCell_same w g 2 _ 31 _ h

theorem ext_zero (s : ByteArray) (k : Nat) : (s.extract 0 k).data.toList = s.data.toList.take k := by
  rw [Lib.extract_data]; simp

theorem byte_parts (l : List UInt8) (c : UInt8) : (Lib.indexByte l c = -1 ∧ c ∉ l ∧ l.takeWhile (fun x => x != c) = l ∧ l.dropWhile (fun x => x != c) = []) ∨
    ∃ a r, l = a ++ c :: r ∧ Lib.indexByte l c = a.length ∧ l.takeWhile (fun x => x != c) = a ∧ l.dropWhile (fun x => x != c) = c :: r := by
  induction l with
  | nil => exact .inl ⟨rfl, by simp, rfl, rfl⟩
  | cons b l ih =>
    unfold Lib.indexByte
    by_cases hb : b = c
    · subst hb
      exact .inr ⟨[], l, rfl, by simp, by simp, by simp⟩
    · have hb' : (b == c) = false := beq_eq_false_iff_ne.2 hb
      have hbn : (b != c) = true := bne_iff_ne.2 hb
      rcases ih with ⟨e, hm, ht, hd⟩ | ⟨a, r, rfl, e, ht, hd⟩
      · refine .inl ⟨by rw [hb', e]; rfl, ?_, by rw [List.takeWhile_cons, hbn, ht]; rfl, by rw [List.dropWhile_cons, hbn, hd]; rfl⟩
        simp only [List.mem_cons, not_or]
        exact ⟨fun h => hb h.symm, hm⟩
      · refine .inr ⟨b :: a, r, rfl, ?_, by rw [List.takeWhile_cons, hbn, ht]; rfl, by rw [List.dropWhile_cons, hbn, hd]; rfl⟩
        rw [hb', e, if_neg (by simp), if_neg (by simp)]; simp


/-- what a read that finds its column comes to: the text up to the next '|', the rest from there on -/
def PostT (w : World) (g : Nat) (l : List UInt8) (e : Ending) (w' : World) : Prop :=
  ∃ t r2 : ByteArray, e = .returned (.string t) ∧ t.data.toList = l.takeWhile (fun c => c != 124) ∧ r2.data.toList = l.dropWhile (fun c => c != 124) ∧ Dec w' g r2 true false ∧ ButG w w' g

/-- a read that fails -/
def PostF (w : World) (g : Nat) (r : ByteArray) (e : Ending) (w' : World) : Prop :=
  e = .returned (.string ⟨#[]⟩) ∧ Dec w' g r true true ∧ ButG w w' g

set_option maxHeartbeats 1000000 in
theorem text_fail (g : Nat) (r : ByteArray) (w : World) (h : Dec w g r true false) (hr : r.size = 0) : Calls Try.prog 13 #[.pointer (some ⟨g, 0, none⟩)] w (PostF w g r) := by
  have HD := hid h
  have c0 := h.c0; have c1 := h.c1; have c2 := h.c2; have f2 := h.free 2
  have hre : r.toList.isEmpty = true := by
    rw [Lib.toList_data, List.isEmpty_iff]
    exact List.eq_nil_of_length_eq_zero (by rw [← Lib.size_eq]; exact hr)
  clear h hr
  go_enter Try.func13, Try.ntmps13
  go_wp2
  go_ret
  exact ⟨rfl, HD.out.set2 true, butG_set _ _ _ _⟩

set_option maxHeartbeats 2000000 in
theorem text_first (g : Nat) (R : ByteArray) (w : World) (h : Dec w g R false false) (_hr : R.size ≤ 1048577) : Calls Try.prog 13 #[.pointer (some ⟨g, 0, none⟩)] w (PostT w g R.data.toList) := by
  have HD := hid h
  have c0 := h.c0; have c1 := h.c1; have c2 := h.c2; have f0 := h.free 0; have f1 := h.free 1
  clear h
  go_enter Try.func13, Try.ntmps13
  go_wp2_with fail
  have HD1 := hid (HD.out.set1 true)
  have B1 := hid (butG_set w g 1 (.bool true))
  clear c0 c1 c2 f0 f1 HD
  generalize w.setCell ⟨g, 1, none⟩ (.bool true) = w1 at *
  have c0 := HD1.out.c0; have f0 := HD1.out.free 0
  rcases byte_parts R.data.toList 124 with ⟨h1, _, h2, h3⟩ | ⟨a, q, h1, h2, h3, h4⟩
  · have HX := hid h1
    have HT := hid h2
    have HDW := hid h3
    clear h1 h2 h3
    refine (Try.strings_IndexByte _ _ _).mono ?_
    rintro e w2 ⟨rfl, hw2⟩
    have hw2' := hw2.symm
    subst hw2'
    rw [show ((124 : Int).toNat.toUInt8) = 124 from rfl, HX.out]
    go_wp2
    go_ret
    refine ⟨_, _, rfl, ?_, ?_, HD1.out.set0 _, B1.out.trans (butG_set _ _ _ _)⟩
    · first
        | rw [HT.out]
        | (show (R.extract 0 R.size).data.toList = _
           rw [ext_zero, HT.out, Lib.size_eq, List.take_length])
    · rw [HDW.out]; rfl
  · have hl : a.length < R.size := by
      have := congrArg List.length h1
      rw [← Lib.size_eq] at this
      simp at this
      omega
    have HX := hid h2
    have HT := hid h3
    have HDW := hid h4
    have HE := hid h1
    clear h1 h2 h3 h4
    refine (Try.strings_IndexByte _ _ _).mono ?_
    rintro e w2 ⟨rfl, hw2⟩
    have hw2' := hw2.symm
    subst hw2'
    rw [show ((124 : Int).toNat.toUInt8) = 124 from rfl, HX.out]
    go_wp2
    go_ret
    refine ⟨R.extract 0 a.length, R.extract a.length R.size, rfl, ?_, ?_, HD1.out.set0 _, B1.out.trans (butG_set _ _ _ _)⟩
    · rw [ext_zero, HT.out, HE.out]; simp
    · rw [Lib.extract_to_end, HDW.out, HE.out]; simp

set_option maxHeartbeats 2000000 in
theorem text_next (g : Nat) (r : ByteArray) (l : List UInt8) (w : World) (h : Dec w g r true false) (hr : r.size ≤ 1048577) (hl : r.data.toList = 124 :: l) : Calls Try.prog 13 #[.pointer (some ⟨g, 0, none⟩)] w (PostT w g l) := by
  have HD := hid h
  have hs0 : 0 < r.size := by rw [Lib.size_eq, hl]; simp
  have hre : r.toList.isEmpty = false := by rw [Lib.toList_data, hl]; rfl
  have hb0 : r[0]'hs0 = 124 := by
    have := Lib.data_getElem? r 0 hs0
    rw [hl] at this
    simpa using this.symm
  have hn : (((r[0]'hs0).toNat : Int) != 124) = false := by rw [hb0]; rfl
  have HL : Hid ((r.extract 1 r.size).data.toList = l) := by show _ = _; rw [Lib.extract_to_end, hl]; rfl
  have HZ : Hid ((r.extract 1 r.size).size ≤ 1048577) := by show _ ≤ _; rw [ByteArray.size_extract]; omega
  have c0 := h.c0; have c1 := h.c1; have c2 := h.c2; have f0 := h.free 0; have f1 := h.free 1
  clear h hb0 hl
  go_enter Try.func13, Try.ntmps13
  go_wp2_with fail
  have HD1 := hid ((HD.out.set0 (r.extract 1 r.size)).set1 true)
  have B1 := hid ((butG_set w g 0 (.string (r.extract 1 r.size))).trans (butG_set _ g 1 (.bool true)))
  clear c0 c1 c2 f0 f1 HD hre hn
  generalize (w.setCell ⟨g, 0, none⟩ (.string (r.extract 1 r.size))).setCell ⟨g, 1, none⟩ (.bool true) = w1 at *
  generalize r.extract 1 r.size = R at *
  have hR : R.size ≤ 1048577 := HZ.out
  have HL' := HL.out
  subst HL'
  have c0 := HD1.out.c0; have f0 := HD1.out.free 0
  rcases byte_parts R.data.toList 124 with ⟨h1, _, h2, h3⟩ | ⟨a, q, h1, h2, h3, h4⟩
  · have HX := hid h1
    have HT := hid h2
    have HDW := hid h3
    clear h1 h2 h3
    refine (Try.strings_IndexByte _ _ _).mono ?_
    rintro e w2 ⟨rfl, hw2⟩
    have hw2' := hw2.symm
    subst hw2'
    rw [show ((124 : Int).toNat.toUInt8) = 124 from rfl, HX.out]
    go_wp2
    go_ret
    refine ⟨_, _, rfl, ?_, ?_, HD1.out.set0 _, B1.out.trans (butG_set _ _ _ _)⟩
    · first
        | rw [HT.out]
        | (show (R.extract 0 R.size).data.toList = _
           rw [ext_zero, HT.out, Lib.size_eq, List.take_length])
    · rw [HDW.out]; rfl
  · have hl : a.length < R.size := by
      have := congrArg List.length h1
      rw [← Lib.size_eq] at this
      simp at this
      omega
    have HX := hid h2
    have HT := hid h3
    have HDW := hid h4
    have HE := hid h1
    clear h1 h2 h3 h4
    refine (Try.strings_IndexByte _ _ _).mono ?_
    rintro e w2 ⟨rfl, hw2⟩
    have hw2' := hw2.symm
    subst hw2'
    rw [show ((124 : Int).toNat.toUInt8) = 124 from rfl, HX.out]
    go_wp2
    go_ret
    refine ⟨R.extract 0 a.length, R.extract a.length R.size, rfl, ?_, ?_, HD1.out.set0 _, B1.out.trans (butG_set _ _ _ _)⟩
    · rw [ext_zero, HT.out, HE.out]; simp
    · rw [Lib.extract_to_end, HDW.out, HE.out]; simp
end Go.Proofs.Qxb6000929a

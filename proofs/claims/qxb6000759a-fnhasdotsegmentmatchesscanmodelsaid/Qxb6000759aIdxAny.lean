/-
  strings.IndexAny (28) at the two separators, whatever the bytes of s: IndexRune (37) at a rune beyond ASCII, the range over s.
-/
import Derived.Test.Qxb6000759aShelf
import Derived.WalkKit
import Derived.WalkLawsBesides
import Derived.WalkSpells
import Derived.Laws.RangeAny
import Derived.Lib.DecodeN
import Derived.Deep.QuietTactic
import Derived.BigQuiet
import Derived.Below
import Derived.WalkMore
import Derived.Lib.OthersKept
import Derived.Laws.Runes
namespace Go.Proofs.Qxb6000759a
open Go.RowKit

theorem hid {p : Prop} (h : p) : Hid p := h

set_option maxRecDepth 100000 in
set_option maxHeartbeats 2000000 in
theorem rune_high (r : Int) (w : World) (h0 : 128 ≤ r) (h1 : r ≤ 2147483647) :
    Calls Try.prog 37 #[.string ⟨#[47, 92]⟩, .int .i32 r] w fun e w' => e = .returned (.int .i64 (-1)) ∧ Below w.heap.size w w' := by
  have hlt : ¬ r < 128 := by omega
  by_cases he : r = 65533
  · subst he
    go_enter Try.func37, Try.ntmps37
    go_wp2
    go_loopg [5, 6] 2 (fun g _ _ wx => ∃ i : Nat, i + g = 2 ∧ wx = w.iter ⟨#[47, 92]⟩ i)
    case atStart => exact ⟨0, rfl, rfl⟩
    case round =>
      obtain ⟨i, hig, rfl⟩ := hrel
      cases gk with
      | zero =>
        obtain rfl : i = 2 := by omega
        have hnx := fun ty => run_next_end (P := Try.prog) w ⟨#[47, 92]⟩ 2 ty (by decide)
        go_wp2
        go_ret
        exact ⟨rfl, (Below.refl _ _).alloc (Nat.le_refl _) _⟩
      | succ g =>
        have h2 : i = 0 ∨ i = 1 := by omega
        rcases h2 with rfl | rfl
        · have hnx := fun ty => run_next_ascii (P := Try.prog) w ⟨#[47, 92]⟩ 0 ty (by decide) (by decide)
          go_wp2
          go_roundg g
          case measure => omega
          case rel => exact ⟨1, by omega, rfl⟩
        · have hnx := fun ty => run_next_ascii (P := Try.prog) w ⟨#[47, 92]⟩ 1 ty (by decide) (by decide)
          go_wp2
          go_roundg g
          case measure => omega
          case rel => exact ⟨2, by omega, rfl⟩
  · have he' : (r == 65533) = false := beq_eq_false_iff_ne.2 he
    by_cases hv : Lib.validRune r = true
    · obtain ⟨f1, f2, f3⟩ := encode_facts r (by rw [validRune_eq]; exact hv) h0
      go_enter Try.func37, Try.ntmps37
      go_wp2_with (go_at_call 47; refine (Try.utf8_ValidRune _ _).mono ?_; rintro e w' ⟨rfl, rfl⟩; rw [hv])
      go_step3
      go_wp2
      generalize Utf8.encode r = rs at *
      by_cases hsz : rs.size = 2
      · obtain ⟨x, y, hxy⟩ : ∃ x y : UInt8, rs = ⟨#[x, y]⟩ := by
          obtain ⟨d⟩ := rs
          obtain ⟨l⟩ := d
          match l, hsz with
          | [x, y], _ => exact ⟨x, y, rfl⟩
        subst hxy
        have hy : 128 ≤ y.toNat := f3 (show 2 - 1 < 2 by omega)
        simp only [show (ByteArray.mk #[x, y]).size = 2 from rfl]
        have hne : ((((⟨#[47, 92]⟩ : ByteArray)[1]'(by decide)).toNat : Int) != (((⟨#[x, y]⟩ : ByteArray)[1]'(show 1 < 2 by omega)).toNat : Int)) = true := by
          rw [bne_iff_ne]
          show ((92 : UInt8).toNat : Int) ≠ (y.toNat : Int)
          have : (92 : UInt8).toNat = 92 := rfl
          omega
        clear f1 f2 f3 hsz
        have hw2 : IntKind.i64.wrap 2 = 2 := by decide
        have hsl : ∀ w, (Instr.slice 9 (.string ⟨#[47, 92]⟩) (some (.int .i64 2)) none none).run Try.prog w = .ok (.string ⟨#[]⟩) w := fun _ => by kernel_rfl
        refine wp_loop_rounds 1 ?_
        rw [rounds_succ]
        go_wp2
        go_step3
        go_wp2_with fail
        go_quiet (fail)
        go_wp2_with fail
        go_quiet ((go_at_call 46; refine (Try.strings_IndexByte _ _ _).mono ?_; rintro e w3 ⟨rfl, rfl⟩; exact ⟨rfl, _, rfl⟩))
        go_wp2_with fail
        rw [Exit.noGoto_ret]
        go_wp2_with fail
        rw [Exit.noGoto_ret]
        go_ret
        exact ⟨rfl, below_drewN (Below.refl _ _) _⟩
      · have hge : ¬ ((rs.size : Int) - 1 < 2) := by omega
        clear f3
        refine wp_loop_rounds 1 ?_
        rw [rounds_succ]
        go_wp2
        go_ret
        exact ⟨rfl, Below.refl _ _⟩
    · have hv' : Lib.validRune r = false := by simpa using hv
      go_enter Try.func37, Try.ntmps37
      go_wp2_with (go_at_call 47; refine (Try.utf8_ValidRune _ _).mono ?_; rintro e w' ⟨rfl, rfl⟩; rw [hv'])
      go_ret
      exact ⟨rfl, Below.refl _ _⟩

theorem get_of (s : ByteArray) (j : Nat) (x : UInt8) (h : s.data.toList[j]? = some x) : s.get! j = x ∧ j < s.size := by
  have hj : j < s.size := by
    have := (List.getElem?_eq_some_iff.1 h).1
    simpa using this
  refine ⟨?_, hj⟩
  have e := get_at s j hj
  rw [Nat.add_zero] at e
  rw [e]
  have := Lib.data_getElem? s j hj
  rw [this] at h
  exact Option.some.inj h

/-- what a rune beyond ASCII takes: bytes beyond ASCII alone, all inside s -/
theorem decode_width (s : ByteArray) (i : Nat) (h : i < s.size) (hb : 128 ≤ (s[i]'h).toNat) :
    i + (Utf8.decode s i).2 ≤ s.size ∧ ∀ j x, i ≤ j → j < i + (Utf8.decode s i).2 → s.data.toList[j]? = some x → 128 ≤ x.toNat := by
  have e0 : s.get! i = s[i]'h := by have := get_at s i h; rwa [Nat.add_zero] at this
  have hat := Lib.decode_at s i
  rw [e0] at hat
  have base : ∀ j x, i ≤ j → j < i + 1 → s.data.toList[j]? = some x → 128 ≤ x.toNat := by
    intro j x h1 h2 hx
    obtain rfl : j = i := by omega
    have := (get_of s j x hx).1
    rw [e0] at this
    rw [← this]; exact hb
  rw [hat]
  unfold Lib.decodeN
  rw [if_neg (by omega)]
  split
  · rename_i hc
    split
    · refine ⟨by omega, fun j x h1 h2 hx => ?_⟩
      by_cases hj : j = i
      · exact base j x h1 (by omega) hx
      · obtain rfl : j = i + 1 := by simp at h2; omega
        have := (get_of s _ x hx).1
        rw [this] at hc
        omega
    · exact ⟨by simp; omega, base⟩
  · split
    · rename_i hc
      split
      · refine ⟨by simp; omega, fun j x h1 h2 hx => ?_⟩
        simp at h2
        by_cases hj : j = i
        · exact base j x h1 (by omega) hx
        · have hg := (get_of s _ x hx).1
          rcases (show j = i + 1 ∨ j = i + 2 from by omega) with rfl | rfl
          · rw [hg] at hc; omega
          · rw [hg] at hc; omega
      · exact ⟨by simp; omega, base⟩
    · split
      · rename_i hc
        split
        · refine ⟨by simp; omega, fun j x h1 h2 hx => ?_⟩
          simp at h2
          by_cases hj : j = i
          · exact base j x h1 (by omega) hx
          · have hg := (get_of s _ x hx).1
            rcases (show j = i + 1 ∨ j = i + 2 ∨ j = i + 3 from by omega) with rfl | rfl | rfl
            · rw [hg] at hc; omega
            · rw [hg] at hc; omega
            · rw [hg] at hc; omega
        · exact ⟨by simp; omega, base⟩
      · exact ⟨by simp; omega, base⟩

theorem not_sep (x : UInt8) (h : 128 ≤ x.toNat) : ([47, 92] : List UInt8).contains x = false := by
  have h1 : ¬ x = 47 := by rintro rfl; exact absurd h (by decide)
  have h2 : ¬ x = 92 := by rintro rfl; exact absurd h (by decide)
  simp [h1, h2]

theorem Below.iterAt {B : Nat} {a w : World} (h : Below B a w) {k : Nat} (hk : B ≤ k) (s : ByteArray) (p : Nat) : Below B a (w.iterAt k s p) :=
  h.trans ⟨rfl, rfl, rfl, by rw [Lib.iterAt_size]; exact Nat.le_refl _, fun j hj => Lib.iterAt_other w k j s p (by omega)⟩

set_option maxRecDepth 100000 in
set_option maxHeartbeats 2000000 in
theorem idxAny_short (s : ByteArray) (w : World) (h8 : s.size ≤ 8) :
    Calls Try.prog 28 #[.string s, .string ⟨#[47, 92]⟩] w fun e w' => e = .returned (.int .i64 (Lib.indexAny s.data.toList [47, 92])) ∧ Below w.heap.size w w' := by
  have h8z : ¬ ((8 : Int) < (s.size : Int)) := by omega
  go_enter Try.func28, Try.ntmps28
  go_wp2_with go_in
  go_loopg [9, 10] s.size (fun g _ _ wx => ∃ i : Nat, i + g = s.size ∧ wx.heap[w.heap.size]? = some (.stringIter s i) ∧ Below w.heap.size w wx ∧ Lib.NoAny s.data.toList [47, 92] i)
  case atStart => exact ⟨0, by omega, World.iter_heap w s 0, (Below.refl _ _).alloc (Nat.le_refl _) _, Lib.NoAny.zero _ _⟩
  case round =>
    obtain ⟨i, hig, hit, hbel, hno⟩ := hrel
    have HIT := hid hit
    have HN := hid hno
    have HB := hid hbel
    have HIG := hid hig
    clear hit hno hbel hig
    by_cases hend : i = s.size
    · have hnx := fun ty => Lib.run_next_end_at (P := Try.prog) wr w.heap.size s i ty HIT.out (by omega)
      have HE := hid hend
      clear hend
      go_wp2
      go_ret
      exact ⟨by rw [Lib.indexAny_none (by rw [← Lib.size_eq, ← HE.out]; exact HN.out)]; rfl, HB.out⟩
    · have hi : i < s.size := by have := HIG.out; omega
      clear hend
      obtain ⟨x, hx⟩ : ∃ x : UInt8, s[i]'hi = x := ⟨_, rfl⟩
      have HXL : Hid (s.data.toList[i]? = some x) := by show _ = _; rw [← hx]; exact Lib.data_getElem? s i hi
      by_cases hlow : x.toNat < 128
      · have hnx := fun ty => Lib.run_next_ascii_at (P := Try.prog) wr w.heap.size s i ty HIT.out hi (by rw [hx]; exact hlow)
        rw [hx] at hnx
        clear hx
        have hcon := Lib.contains_iff_indexByte [47, 92] x
        have hback : ((x.toNat : Int)).toNat.toUInt8 = x := by simp
        have HBK := hid hback
        clear hback
        cases hin : ([47, 92] : List UInt8).contains x
        · rw [hin] at hcon
          have hlt : ¬ ((0 : Int) ≤ Lib.indexByte [47, 92] x) := of_decide_eq_false hcon.symm
          have HIN := hid hin
          clear hcon hin
          go_wp2_with (go_at_call 37; refine (Try.strings_IndexRune_ascii _ _ _ (by omega) (by omega)).mono ?_; rintro e w' ⟨rfl, hw⟩; rw [hw, HBK.out])
          go_roundg (gk - 1)
          case measure => have := HIG.out; omega
          case rel => exact ⟨i + 1, by have := HIG.out; omega, Lib.iterAt_heap _ _ _ _ _ HIT.out, Below.iterAt HB.out (Nat.le_refl _) _ _, HN.out.succ HXL.out HIN.out⟩
        · rw [hin] at hcon
          have hge : (0 : Int) ≤ Lib.indexByte [47, 92] x := of_decide_eq_true hcon.symm
          have HIN := hid hin
          clear hcon hin
          go_wp2_with (go_at_call 37; refine (Try.strings_IndexRune_ascii _ _ _ (by omega) (by omega)).mono ?_; rintro e w' ⟨rfl, hw⟩; rw [hw, HBK.out])
          go_ret
          exact ⟨by rw [Lib.indexAny_hit HN.out HXL.out HIN.out]; rfl, Below.iterAt HB.out (Nat.le_refl _) _ _⟩
      · have hb : 128 ≤ (s[i]'hi).toNat := by rw [hx]; omega
        have hnx := fun ty => Lib.run_next_any_at (P := Try.prog) wr w.heap.size s i ty HIT.out hi
        obtain ⟨d1, d2⟩ := decode_high s i hi hb
        have d3 := decode_le s i
        have DW := hid (decode_width s i hi hb)
        clear hx hlow hb
        have HNX : Hid (Lib.NoAny s.data.toList [47, 92] (i + (Utf8.decode s i).2)) := fun j b hj hb => by
          by_cases hji : j < i
          · exact HN.out j b hji hb
          · exact not_sep b (DW.out.2 j b (by omega) hj hb)
        have DW1 := hid DW.out.1
        clear DW
        generalize (Utf8.decode s i).1 = rn at *
        generalize (Utf8.decode s i).2 = wd at *
        have HI2 := hid (Lib.iterAt_heap wr w.heap.size s i (i + wd) HIT.out)
        have HB2 := hid (Below.iterAt HB.out (Nat.le_refl _) s (i + wd))
        have hz : w.heap.size < (wr.iterAt w.heap.size s (i + wd)).heap.size := by
          have h := HI2.out
          rcases Nat.lt_or_ge w.heap.size (wr.iterAt w.heap.size s (i + wd)).heap.size with h' | h'
          · exact h'
          · rw [Array.getElem?_eq_none h'] at h; cases h
        have HZ := hid hz
        clear hz
        go_wp2_with (go_at_call 37; refine (rune_high _ _ (by omega) (by omega)).mono ?_; rintro e w' ⟨rfl, hbl⟩)
        go_roundg (gk - wd)
        case measure => have := HIG.out; omega
        case rel => exact ⟨i + wd, by have := HIG.out; have := DW1.out; omega, by rw [hbl.block _ HZ.out]; exact HI2.out, HB2.out.trans (hbl.mono (by have := HZ.out; omega)), HNX.out⟩

theorem set_ascii : ∀ (j : Nat) b, (⟨#[47, 92]⟩ : ByteArray).data.toList[j]? = some b → b.toNat < 128 := by
  intro j b h
  match j, h with
  | 0, h => simp at h; subst h; decide
  | 1, h => simp at h; subst h; decide

/-- strings.IndexAny(s, "/" and the backslash), whatever s -/
theorem idxAny_any (s : ByteArray) (w : World) (hs : s.size < 4294967281) :
    Calls Try.prog 28 #[.string s, .string ⟨#[47, 92]⟩] w fun e w' => e = .returned (.int .i64 (Lib.indexAny s.data.toList [47, 92])) ∧ Below w.heap.size w w' := by
  by_cases h8 : s.size ≤ 8
  · exact idxAny_short s w h8
  · refine (Try.strings_IndexAny_long (fun w => by kernel_rfl) s ⟨#[47, 92]⟩ w (by decide) (by omega) hs (by decide) set_ascii).mono ?_
    rintro e w' ⟨rfl, rfl⟩
    exact ⟨rfl, ((Below.refl _ _).alloc (Nat.le_refl _) _).alloc (by simp) _⟩
end Go.Proofs.Qxb6000759a

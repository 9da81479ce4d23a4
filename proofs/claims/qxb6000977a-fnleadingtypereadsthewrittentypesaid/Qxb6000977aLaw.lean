/-
  FnLeadingTypeReadsTheWrittenType (3).
-/
import Derived.Test.Qxb6000977aLead
import Derived.Below
import Derived.Deep.DeepCutAuto
namespace Go.Proofs.Qxb6000977a
open Go.RowKit

def numsOf (t : ByteArray) : List Int := t.data.toList.map fun b => (b.toNat : Int)

theorem strCells_eq (t : ByteArray) : Lib.strCells t = (numsOf t).map (Value.int .u8) := by
  simp [Lib.strCells, numsOf]

theorem nums_back (t : ByteArray) : strOfNums (numsOf t) = t := by
  apply ByteArray.ext
  apply Array.ext'
  have := Lib.strOfNums_toList (numsOf t)
  rw [Lib.toList_data] at this
  rw [this]
  unfold Lib.bytesOf numsOf
  rw [List.map_map]
  conv => rhs; rw [← List.map_id t.data.toList]
  apply List.map_congr_left
  intro b _
  show UInt8.ofNat (b.toNat : Int).toNat = b
  rw [Int.toNat_natCast]
  exact UInt8.ofNat_toNat

theorem nums_len (t : ByteArray) : (numsOf t).length = t.size := by simp [numsOf]
theorem nums_range (t : ByteArray) : ∀ x ∈ numsOf t, 0 ≤ x ∧ x < 256 := by
  intro x hx
  obtain ⟨b, _, rfl⟩ := List.mem_map.1 hx
  have := b.toNat_lt
  omega
theorem nums_q (t : ByteArray) (h : hasQ t = false) : 34 ∉ numsOf t := by
  intro hx
  obtain ⟨b, hb, e⟩ := List.mem_map.1 hx
  have : b = 34 := UInt8.toNat_inj.1 (by have : (34 : UInt8).toNat = 34 := rfl; omega)
  subst this
  exact of_decide_eq_false h hb

theorem lead_fits : 0 + (⟨#[123, 34, 116, 121, 112, 101, 34, 58, 34]⟩ : ByteArray).size ≤ 100000000000000 := by decide
theorem lead_row {B g c : Nat} {w : World} (h : Row 5 B w g (0 + (⟨#[123, 34, 116, 121, 112, 101, 34, 58, 34]⟩ : ByteArray).size) c ([] ++ Lib.strCells ⟨#[123, 34, 116, 121, 112, 101, 34, 58, 34]⟩)) :
    Row 5 B w g 9 c (leadI.map (Value.int .u8)) := h

theorem cells_later {a1 : Option Addr} {len1 : Nat} {v : List Int} {w w' : World} (hc : ∀ ad, a1 = some ad → ∀ j, j < len1 → w.cell? (ad.add j) = some (.int .u8 (v.getD j 0))) (hb : Below w.heap.size w w') :
    ∀ ad, a1 = some ad → ∀ j, j < len1 → w'.cell? (ad.add j) = some (.int .u8 (v.getD j 0)) := fun ad had j hj => by
  have h := hc ad had j hj
  have hlt : (ad.add j).block < w.heap.size := by
    rcases Nat.lt_or_ge (ad.add j).block w.heap.size with h' | h'
    · exact h'
    · simp [World.cell?, Array.getElem?_eq_none h'] at h
  rw [hb.cell hlt]
  exact h

set_option maxRecDepth 100000 in
set_option maxHeartbeats 4000000 in
theorem law5 (t : ByteArray) (a1 : Option Addr) (len1 cap1 : Nat) (v : List Int) (w : World) (hs : t.size ≤ maxLen) (hl : len1 ≤ maxLen) (hv : v.length = len1) (hnone : a1 = none → len1 = 0 ∧ cap1 = 0)
    (hcell : ∀ ad, a1 = some ad → ∀ j, j < len1 → w.cell? (ad.add j) = some (.int .u8 (v.getD j 0))) :
    Calls Try.prog 3 #[.string t, .slice a1 len1 cap1] w fun e w' => e = .returned (.bool true) ∧ Below w.heap.size w w' := by
  unfold maxLen at hs hl
  have HV := hid hv
  have HN := hid hnone
  have HC := hid hcell
  clear hv hnone hcell
  by_cases h1 : t.size ≤ 1048576
  · have b1 : ¬ ((1048576 : Int) < (t.size : Int)) := by omega
    by_cases h2 : len1 ≤ 1048576
    · have b2 : ¬ ((1048576 : Int) < (len1 : Int)) := by omega
      by_cases h3 : t.size + len1 ≤ 1048576
      · have b3 : ¬ ((1048576 : Int) < (t.size : Int) + (len1 : Int)) := by omega
        have HQ := hid (quote_any t w h1)
        obtain ⟨q, hq⟩ : ∃ q, q = hasQ t := ⟨_, rfl⟩
        rw [← hq] at HQ
        cases q with
        | true =>
          clear hq
          go_enter Try.func3, Try.ntmps3
          go_wp2_with (first | (go_at_call 10; refine HQ.out.mono ?_; rintro e w' ⟨rfl, hw⟩; rw [hw]) | go_in)
          go_ret
          exact ⟨rfl, Below.refl _ _⟩
        | false =>
          have HF := hid hq.symm
          clear hq
          obtain ⟨i0, hi, hz0, hz1, hz2⟩ := info_parts Try.info5
          go_enter Try.func3, Try.ntmps3
          go_upto_region 8 with (first | (go_at_call 10; refine HQ.out.mono ?_; rintro e w' ⟨rfl, hw⟩; rw [hw]) | (at_make; refine wpList_make_own _ (by rfl) _ _ 22 (by rfl) w.heap.size 5 i0 (.int .u8 0) 1 Try.underlying22 hi hz0 hz1 .i64 .i64 _ (9 + t.size + 1 + len1) (by rfl) (by rfl) (by omega) (by rw [hz2]; omega) (by unfold maxLen; omega) (by simp) ?_; intro w1 hown1 hgr1) | go_in)
          have HR1 : Hid (Row 5 w.heap.size w1 w.heap.size 0 (9 + t.size + 1 + len1) []) := ⟨hown1, hgr1.size⟩
          have B1 : Hid (Below w.heap.size w w1) := (Below.refl _ _).grown hgr1 (Nat.le_refl _) (fun k hk => by cases hk)
          clear hown1 hgr1 hi hz0 hz1 hz2 i0 HQ
          generalize 9 + t.size + 1 + len1 = c1 at *
          go_upto_region 9 with (at_builtin; refine app_str (by rfl) _ _ (by rfl) HR1.out (by rfl) (by rfl) lead_fits ?_; intro g2 c2 w2 hr2 hg2)
          have HR2 : Hid (Row 5 w.heap.size w2 g2 9 c2 (leadI.map (Value.int .u8))) := lead_row hr2
          have B2 := hid (B1.out.trans (hg2.below HR1.out.lt.1 HR1.out.2))
          clear hr2 hg2 HR1 B1
          go_upto_region 10 with (at_builtin; refine app_str (by rfl) _ _ (by rfl) HR2.out (by rfl) (by rfl) (by omega) ?_; intro g3 c3 w3 hr3 hg3)
          have HR3 := hid hr3
          have B3 := hid (B2.out.trans (hg3.below HR2.out.lt.1 HR2.out.2))
          clear hr3 hg3 HR2 B2
          go_upto_region 11 with (at_builtin; refine app_new Try.underlying22 Try.info5 rfl (by rfl) _ _ (by rfl) HR3.out (by rfl) (by rfl) (by rfl) (by omega) (by rfl) (by omega) ?_; intro g4 c4 w4 hr4 hg4)
          have HR4 := hid hr4
          have B4 := hid (B3.out.trans (hg4.below HR3.out.lt.1 HR3.out.2))
          clear hr4 hg4 HR3 B3
          have HC4 := hid (cells_later HC.out B4.out)
          go_upto_region 12 with (at_builtin; refine app_any (by rfl) _ _ (by rfl) HR4.out (by rfl) (by rfl) HV.out HN.out HC4.out (by omega) ?_; intro g5 c5 w5 hr5 hg5)
          have B5 := hid (B4.out.trans (hg5.below HR4.out.lt.1 HR4.out.2))
          have hcap := hr5.cap.1
          have hr6 : Row 5 w.heap.size w5 g5 (9 + t.size + 1 + len1) c5 ((leadI ++ (numsOf t ++ 34 :: v)).map (Value.int .u8)) := by
            rw [strCells_eq] at hr5
            simpa using hr5
          have HL := hid (door11 g5 (9 + t.size + 1 + len1) c5 _ w5 (leading_any g5 (9 + t.size + 1 + len1) c5 (numsOf t) v w5 (by have := hr6.len; simpa using this) hcap (mem_row hr6) (nums_q t HF.out) (nums_range t)))
          rw [nums_back] at HL
          have hg0 : w.heap.size ≤ w5.heap.size := B5.out.size
          clear hr5 hr6 hg5 HR4 B4 HC4 hcap
          generalize 9 + t.size + 1 + len1 = c6 at *
          go_wp2_with fail
          refine HL.out.mono ?_
          rintro e w6 ⟨rfl, hb6⟩
          have B6 := hid (B5.out.trans (hb6.mono hg0))
          clear hb6
          go_wp2
          go_ret
          exact ⟨rfl, B6.out⟩
      · have b3 : (1048576 : Int) < (t.size : Int) + (len1 : Int) := by omega
        go_enter Try.func3, Try.ntmps3
        go_wp2_with go_in
        go_ret
        exact ⟨rfl, Below.refl _ _⟩
    · have b2 : (1048576 : Int) < (len1 : Int) := by omega
      go_enter Try.func3, Try.ntmps3
      go_wp2_with go_in
      go_ret
      exact ⟨rfl, Below.refl _ _⟩
  · have b1 : (1048576 : Int) < (t.size : Int) := by omega
    go_enter Try.func3, Try.ntmps3
    go_wp2_with go_in
    go_ret
    exact ⟨rfl, Below.refl _ _⟩
end Go.Proofs.Qxb6000977a

/-
  FnDeclarationsRejoinWithoutComments (3).
-/
import Derived.Test.Qxb6001104aDecl
import Derived.Test.Qxb6001104aJoin
namespace Go.Proofs.Qxb6001104a
open Go.RowKit

theorem door12 (s : ByteArray) (w : World) (h : Calls Try.prog 22 #[.string s] w (PostD s w)) : Calls Try.prog 12 #[.string s] w (PostD s w) := by
  have H := hid h
  clear h
  go_enter Try.func12, Try.ntmps12
  go_wp2_with fail
  refine H.out.mono ?_
  intro e w' hp
  obtain ⟨g, n, c, L, rfl, hr⟩ := hp
  have HR := hid hr
  clear hr
  go_wp2
  go_ret
  exact ⟨g, n, c, L, rfl, HR.out⟩

theorem joined_back {s : ByteArray} {L : List (List UInt8)} (h : jl L = 59 :: s.data.toList) : strV (joined L) = .string s := by
  unfold strV joined
  rw [h, List.drop_succ_cons, List.drop_zero]

theorem cells_of {w : World} {B g n c : Nat} {L : List (List UInt8)} (h : w.ownsRow B 9 1 (.slice (some ⟨g, 0, none⟩) n c) n (L.map str)) : ∀ k p, L[k]? = some p → w.cell? ⟨g, k, none⟩ = some (strV p) := fun k p hp => by
  have hk := (List.getElem?_eq_some_iff.1 hp).1
  have hl := h.1
  simp at hl
  rw [h.cellAt k (by omega), List.getElem?_map, hp]
  rfl

set_option maxRecDepth 100000 in
set_option maxHeartbeats 2000000 in
theorem law6 (s : ByteArray) (hs : s.size ≤ maxLen) (w : World) :
    Calls Try.prog 3 #[.string s] w fun e w' => e = .returned (.bool true) ∧ Below w.heap.size w w' := by
  unfold maxLen at hs
  by_cases hbig : s.size ≤ 1048576
  · have hb1 : ¬ ((1048576 : Int) < (s.size : Int)) := by omega
    have HO := hid (open_any s w hbig)
    have HBG := hid hbig
    go_enter Try.func3, Try.ntmps3
    go_upto_region 5 with go_in
    go_wp2_with fail
    refine HO.out.mono ?_
    rintro e w' ⟨⟨b, rfl, hb⟩, hw⟩
    rw [hw]
    have HBN := hid hb
    clear hb hw HO
    cases b with
    | true =>
      go_wp2
      go_ret
      exact ⟨rfl, Below.refl _ _⟩
    | false =>
      have HD := hid (door12 s w (decl_any s w HBG.out (HBN.out rfl)))
      go_wp2_with fail
      refine HD.out.mono ?_
      intro e w2 hp
      obtain ⟨g, n, c, L, rfl, hown, hlen, hj, hbel⟩ := hp
      have hL : (jl L).length ≤ 1048577 := by rw [hj, List.length_cons, ← Lib.size_eq]; have := HBG.out; omega
      have hn0 : n ≠ 0 := by
        intro e
        rw [e] at hlen
        rw [List.eq_nil_of_length_eq_zero hlen] at hj
        simp [jl] at hj
      have hnb : ((n : Int) == 0) = false := by rw [beq_eq_false_iff_ne]; omega
      have hg : g < w2.heap.size := (hown.lt g rfl).2
      have HJ := hid (join_any g n c L w2 hlen hg hL (cells_of hown))
      rw [joined_back hj] at HJ
      have HB := hid hbel
      have hsz : w.heap.size ≤ w2.heap.size := hbel.size
      clear hown hlen hj hbel hL hn0 hg HD
      go_wp2_with fail
      refine HJ.out.mono ?_
      rintro e w3 ⟨rfl, hb3⟩
      have HB3 := hid (HB.out.trans (hb3.mono hsz))
      clear hb3
      go_wp2
      go_ret
      exact ⟨rfl, HB3.out⟩
  · have hb1 : (1048576 : Int) < (s.size : Int) := by omega
    go_enter Try.func3, Try.ntmps3
    go_wp2_with go_in
    go_ret
    exact ⟨rfl, Below.refl _ _⟩
end Go.Proofs.Qxb6001104a

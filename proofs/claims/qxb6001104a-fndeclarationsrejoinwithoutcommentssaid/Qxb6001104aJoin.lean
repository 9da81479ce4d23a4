/-
  zzJoinSemicolon (13).
-/
import Derived.Test.Qxb6001104aPlain
import Derived.Deep.DeepCutAuto
import Derived.Laws.BytesArg
import Derived.Lib.SlBytesRow
namespace Go.Proofs.Qxb6001104a
open Go.RowKit

def strV (p : List UInt8) : Value := .string ⟨p.toArray⟩
def cellsU (l : List UInt8) : List Value := l.map fun b => Value.int .u8 b.toNat

theorem cellsU_append (a b : List UInt8) : cellsU (a ++ b) = cellsU a ++ cellsU b := by simp [cellsU]
theorem strCells_eq (t : ByteArray) : Lib.strCells t = cellsU t.data.toList := rfl
theorem bytes_row {B : Nat} {w : World} {g n c : Nat} {s : ByteArray} (h : Row 5 B w g n c (cellsU s.data.toList)) : Lib.Bytes w g 0 s := by
  intro i hi
  have hl := h.len
  have hn : i < n := by rw [← hl]; simp [cellsU]; exact hi
  rw [Nat.zero_add, h.cell i hn]
  unfold cellsU
  rw [List.getElem?_map, Lib.data_getElem? s i hi]
  rfl

theorem jl_take {L : List (List UInt8)} {k : Nat} {p : List UInt8} (h : L[k]? = some p) : jl (L.take (k + 1)) = jl (L.take k) ++ 59 :: p := by
  obtain ⟨hk, hx⟩ := List.getElem?_eq_some_iff.1 h
  rw [List.take_succ_eq_append_getElem hk, hx, jl_append, jl_one]
theorem jl_take_le (L : List (List UInt8)) (k : Nat) : (jl (L.take k)).length ≤ (jl L).length := by
  have : jl L = jl (L.take k) ++ jl (L.drop k) := by rw [← jl_append, List.take_append_drop]
  rw [this, List.length_append]
  omega
theorem jl_ne {L : List (List UInt8)} {k : Nat} (hk : 0 < k) (hl : k ≤ L.length) : ∃ r, jl (L.take k) = 59 :: r := by
  cases L with
  | nil => simp at hl; omega
  | cons p L =>
    obtain ⟨j, rfl⟩ : ∃ j, k = j + 1 := ⟨k - 1, by omega⟩
    rw [List.take_succ_cons]
    exact ⟨p ++ jl (L.take j), by simp [jl]⟩

def joined (L : List (List UInt8)) : List UInt8 := (jl L).drop 1

def RelJ1 (L : List (List UInt8)) (s3 s4 : Value) : Prop := ∃ k : Nat, k ≤ L.length ∧ s4 = .int .i64 k ∧ s3 = .int .i64 ((jl (L.take k)).length : Int)
def RelJ2 (L : List (List UInt8)) (w : World) (gk : Nat) (s5 s6 : Value) (wr : World) : Prop :=
  ∃ (k g n c : Nat), k + gk = L.length ∧ s6 = .int .i64 k ∧ s5 = .slice (some ⟨g, 0, none⟩) n c ∧ Row 5 w.heap.size wr g n c (cellsU ((jl (L.take k)).drop 1)) ∧ Below w.heap.size w wr

set_option maxRecDepth 100000 in
set_option maxHeartbeats 4000000 in
theorem join_any (g n c : Nat) (L : List (List UInt8)) (w : World) (hn : L.length = n) (hg : g < w.heap.size) (hL : (jl L).length ≤ 1048577) (hcell : ∀ k p, L[k]? = some p → w.cell? ⟨g, k, none⟩ = some (strV p)) :
    Calls Try.prog 13 #[.slice (some ⟨g, 0, none⟩) n c] w fun e w' => e = .returned (strV (joined L)) ∧ Below w.heap.size w w' := by
  have HN := hid hn
  have HC := hid hcell
  have hnL := jl_len L
  have hn1 : n ≤ 1048577 := by omega
  clear hn hcell hnL
  obtain ⟨i0, hi, hz0, hz1, hz2⟩ := info_parts Try.info5
  go_enter Try.func13, Try.ntmps13
  go_wp2
  go_loop [3, 4] (fun s3 s4 => RelJ1 L s3 s4) (fun _ s4 => n - (intOf s4).toNat)
  case atStart => exact ⟨0, Nat.zero_le _, rfl, by simp [jl]⟩
  case round =>
    obtain ⟨k, hk, rfl, rfl⟩ := hrel
    rw [HN.out] at hk
    have hjk := jl_take_le L k
    by_cases hlt : k < n
    · obtain ⟨p, hp⟩ : ∃ p, L[k]? = some p := ⟨_, List.getElem?_eq_getElem (by rw [HN.out]; exact hlt)⟩
      have hcp := HC.out k p hp
      unfold strV at hcp
      have hj1 : (jl (L.take (k + 1))).length = (jl (L.take k)).length + (p.length + 1) := by rw [jl_take hp]; simp
      have hj2 := jl_take_le L (k + 1)
      have HJ1 := hid hj1
      have hps : (⟨p.toArray⟩ : ByteArray).size = p.length := by rw [Lib.size_eq]
      have hpl : p.length ≤ 1048577 := by omega
      have hsum : (jl (L.take k)).length + (p.length + 1) ≤ 1048577 := by omega
      clear hp hj1 hj2
      generalize (jl (L.take k)).length = a at *
      generalize (⟨p.toArray⟩ : ByteArray) = P at *
      have HPS := hid hps
      have hPl : P.size ≤ 1048577 := by omega
      have hsum2 : (a : Int) + ((P.size : Int) + 1) ≤ 1048577 := by omega
      clear hps hsum
      go_wp2
      go_round
      case rel => exact ⟨k + 1, by rw [HN.out]; omega, by go_num, by rw [HJ1.out, ← HPS.out]; go_num⟩
      case measure => simp [intOf]; omega
    · have hkn : k = n := by omega
      have hkk : ¬ ((k : Int) < (n : Int)) := by omega
      have hLk : L.take k = L := List.take_of_length_le (by rw [HN.out]; omega)
      rw [hLk]
      clear hLk hkn hjk
      obtain ⟨T, hT⟩ : ∃ T, T = (jl L).length := ⟨_, rfl⟩
      rw [← hT] at hL ⊢
      have HT := hid hT
      clear hT
      go_upto_region 7 with (at_make; refine wpList_make_own _ (by rfl) _ _ 37 (by rfl) w.heap.size 5 i0 (.int .u8 0) 1 Try.underlying37 hi hz0 hz1 .i64 .i64 _ T (by rfl) (by rfl) (by rfl) (by rw [hz2]; omega) (by unfold maxLen; omega) (by simp) ?_; intro w1 hown1 hgr1)
      have HR0 : Hid (Row 5 w.heap.size w1 w.heap.size 0 T []) := ⟨hown1, hgr1.size⟩
      have HB0 : Hid (Below w.heap.size w w1) := (Below.refl _ _).grown hgr1 (Nat.le_refl _) (fun k hk => by cases hk)
      clear hown1 hgr1
      go_wp2
      go_loopg [5, 6] n (fun gk s5 s6 wr => RelJ2 L w gk s5 s6 wr)
      case atStart => exact ⟨0, _, 0, T, by rw [HN.out]; omega, rfl, rfl, by simpa [jl, cellsU] using HR0.out, HB0.out⟩
      case round =>
        obtain ⟨k2, g2, n2, c2, hkg, rfl, rfl, hrow, hbel⟩ := hrel
        rw [HN.out] at hkg
        have HKG := hid hkg
        have HR := hid hrow
        have HB := hid hbel
        have hn2 : n2 ≤ 1048577 := by
          have h1 := hrow.len
          have h2 := jl_take_le L k2
          have h3 := HT.out
          simp [cellsU] at h1
          omega
        clear hkg hrow hbel HR0 HB0
        by_cases hlt2 : k2 < n
        · obtain ⟨p, hp⟩ : ∃ p, L[k2]? = some p := ⟨_, List.getElem?_eq_getElem (by rw [HN.out]; exact hlt2)⟩
          have hcp := HC.out k2 p hp
          rw [← HB.out.cell (p := ⟨g, k2, none⟩) hg] at hcp
          unfold strV at hcp
          have HJ := hid (jl_take hp)
          have hj2 := jl_take_le L (k2 + 1)
          have hps : (⟨p.toArray⟩ : ByteArray).size ≤ 1048577 := by
            have h1 := congrArg List.length HJ.out
            have h2 := HT.out
            have h3 : (⟨p.toArray⟩ : ByteArray).size = p.length := Lib.size_eq _
            rw [List.length_append, List.length_cons] at h1
            omega
          have HPD : Hid ((⟨p.toArray⟩ : ByteArray).data.toList = p) := rfl
          clear hp hj2
          generalize (⟨p.toArray⟩ : ByteArray) = P at *
          by_cases hk0 : 0 < k2
          · have hk1 : (0 : Int) < (k2 : Int) := by omega
            obtain ⟨r, hr⟩ := jl_ne (L := L) hk0 (by rw [HN.out]; omega)
            have HRR := hid hr
            clear hr
            go_upto_region 12 with (at_builtin; refine app_new Try.underlying37 Try.info5 rfl (by rfl) _ _ (by rfl) HR.out (by rfl) (by rfl) (by rfl) (by omega) (by rfl) (by omega) ?_; intro g3 c3 w3 hr3 hg3)
            have HR3 := hid hr3
            have HB3 := hid (HB.out.trans (hg3.below HR.out.lt.1 HB.out.size))
            have hcp3 := hcp
            rw [HB.out.cell (p := ⟨g, k2, none⟩) hg, ← HB3.out.cell (p := ⟨g, k2, none⟩) hg] at hcp3
            clear hr3 hg3 hcp
            go_upto_region 9 with (at_builtin; refine app_str (by rfl) _ _ (by rfl) HR3.out (by rfl) (by rfl) (by omega) ?_; intro g4 c4 w4 hr4 hg4)
            have HB4 := hid (HB3.out.trans (hg4.below HR3.out.lt.1 HB3.out.size))
            have HR4 : Hid (Row 5 w.heap.size w4 g4 (n2 + 1 + P.size) c4 (cellsU ((jl (L.take (k2 + 1))).drop 1))) := by
              show Row _ _ _ _ _ _ _
              rw [HJ.out, HRR.out, List.cons_append, List.drop_succ_cons, List.drop_zero]
              rw [HRR.out, strCells_eq, HPD.out, List.drop_succ_cons, List.drop_zero] at hr4
              simpa [cellsU] using hr4
            clear hr4 hg4
            go_wp2
            go_roundg (gk - 1)
            case measure => have := HKG.out; omega
            case rel => exact ⟨k2 + 1, g4, _, c4, by rw [HN.out]; have := HKG.out; omega, by go_num, rfl, HR4.out, HB4.out⟩
          · have hk1 : ¬ ((0 : Int) < (k2 : Int)) := by omega
            have hk2 : k2 = 0 := by omega
            have HK2 := hid hk2
            clear hk2 hk0
            go_upto_region 9 with (at_builtin; refine app_str (by rfl) _ _ (by rfl) HR.out (by rfl) (by rfl) (by omega) ?_; intro g4 c4 w4 hr4 hg4)
            have HB4 := hid (HB.out.trans (hg4.below HR.out.lt.1 HB.out.size))
            have HR4 : Hid (Row 5 w.heap.size w4 g4 (n2 + P.size) c4 (cellsU ((jl (L.take (k2 + 1))).drop 1))) := by
              show Row _ _ _ _ _ _ _
              have h0 : jl (L.take k2) = [] := by rw [HK2.out]; simp [jl]
              rw [HJ.out, h0, List.nil_append, List.drop_succ_cons, List.drop_zero]
              rw [h0, strCells_eq, HPD.out] at hr4
              simpa [cellsU] using hr4
            clear hr4 hg4
            go_wp2
            go_roundg (gk - 1)
            case measure => have := HKG.out; omega
            case rel => exact ⟨k2 + 1, g4, _, c4, by rw [HN.out]; have := HKG.out; omega, by go_num, rfl, HR4.out, HB4.out⟩
        · have hkk2 : ¬ ((k2 : Int) < (n : Int)) := by omega
          have hLk : L.take k2 = L := List.take_of_length_le (by rw [HN.out]; have := HKG.out; omega)
          rw [hLk] at HR
          obtain ⟨S, hS⟩ : ∃ S : ByteArray, S = ⟨((jl L).drop 1).toArray⟩ := ⟨_, rfl⟩
          have hSd : S.data.toList = (jl L).drop 1 := by rw [hS]
          rw [← hSd] at HR
          have hn3 : n2 = S.size := by have := HR.out.len; simp [cellsU] at this; rw [Lib.size_eq]; simp; omega
          subst hn3
          have kc := Lib.run_convert_whole (P := Try.prog) _ 37 5 9 Try.underlying37 Try.underlying5 Try.underlying9 g2 0 S (bytes_row HR.out) c2
          have HSS := hid hS
          clear hS hSd hLk
          go_wp2
          go_ret
          exact ⟨by rw [HSS.out]; rfl, HB.out⟩
end Go.Proofs.Qxb6001104a

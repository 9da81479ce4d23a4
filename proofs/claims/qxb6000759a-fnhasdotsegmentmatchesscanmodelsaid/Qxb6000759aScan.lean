/-
  isPathSep (30), the scan model (13).
-/
import Derived.Test.Qxb6000759aHasDot
namespace Go.Proofs.Qxb6000759a
open Go.RowKit

theorem beq_u8 (x y : UInt8) : ((x.toNat : Int) == (y.toNat : Int)) = (x == y) := by
  rw [Bool.eq_iff_iff]
  simp only [beq_iff_eq]
  constructor
  · intro h; exact UInt8.toNat_inj.1 (by omega)
  · rintro rfl; rfl

theorem isSep_any (c : UInt8) (w : World) : Calls Try.prog 30 #[.int .u8 (c.toNat : Int)] w fun e w' => e = .returned (.bool (Dot.sep c)) ∧ w' = w := by
  have e1 : ((c.toNat : Int) == 47) = (c == 47) := beq_u8 c 47
  have e2 : ((c.toNat : Int) == 92) = (c == 92) := beq_u8 c 92
  unfold Dot.sep
  cases h1 : (c == 47) <;> cases h2 : (c == 92) <;> rw [h1] at e1 <;> rw [h2] at e2
  all_goals
    clear h1 h2
    go_enter Try.func30, Try.ntmps30
    go_wp2
    go_ret
    exact ⟨rfl, rfl⟩

namespace Dot
def st (L : List UInt8) (k : Nat) : Bool := k == 0 || sep (L.getD (k - 1) 0)

theorem st_succ (L : List UInt8) (k : Nat) (x : UInt8) (h : L[k]? = some x) : st L (k + 1) = sep x := by
  unfold st
  rw [List.getD_eq_getElem?_getD, Nat.add_sub_cancel, h]
  simp

theorem step_no (L : List UInt8) (k : Nat) (x : UInt8) (h : L[k]? = some x) (hd : (st L k && dot (L.drop k)) = false) : anyDot (st L k) (L.drop k) = anyDot (st L (k + 1)) (L.drop (k + 1)) := by
  have hlt : k < L.length := (List.getElem?_eq_some_iff.1 h).1
  have hx : L[k] = x := (List.getElem?_eq_some_iff.1 h).2
  rw [List.drop_eq_getElem_cons hlt, hx] at hd ⊢
  rw [anyDot, hd, st_succ L k x h]
  rfl
theorem step_yes (L : List UInt8) (k : Nat) (h : k < L.length) (hd : (st L k && dot (L.drop k)) = true) : anyDot (st L k) (L.drop k) = true := by
  rw [List.drop_eq_getElem_cons h] at hd ⊢
  rw [anyDot, hd]
  rfl

theorem tw_nil : ([] : List UInt8).takeWhile (fun c => !term c) = [] := rfl
theorem tw_cons (x : UInt8) (l : List UInt8) : (x :: l).takeWhile (fun c => !term c) = if term x then [] else x :: l.takeWhile (fun c => !term c) := by
  rw [List.takeWhile_cons]
  cases term x <;> rfl
theorem cnil (x : UInt8) (l : List UInt8) : (x :: l == ([] : List UInt8)) = false := rfl
theorem t46 : term 46 = false := by decide

/-- the head of a list of bytes, as the scan asks of it -/
theorem dot_other (x : UInt8) (l : List UInt8) (h : (x == 46) = false) : dot (x :: l) = false := by
  unfold dot
  rw [tw_cons]
  split
  · rfl
  · simp only [List.cons_beq_cons, h]; rfl
theorem dot_one_end : dot [46] = true := by decide
theorem dot_one (x : UInt8) (l : List UInt8) (h : (x == 46) = false) : dot (46 :: x :: l) = term x := by
  unfold dot
  rw [tw_cons, t46, tw_cons]
  cases ht : term x
  · simp only [Bool.false_eq_true, if_false, List.cons_beq_cons, h, Bool.and_false, Bool.false_and, Bool.or_false, cnil]
  · rfl
theorem dot_two_end : dot [46, 46] = true := by decide
theorem dot_two (x : UInt8) (l : List UInt8) : dot (46 :: 46 :: x :: l) = term x := by
  unfold dot
  rw [tw_cons, t46, tw_cons, t46, tw_cons]
  cases ht : term x
  · simp only [Bool.false_eq_true, if_false, List.cons_beq_cons, Bool.and_false, cnil, Bool.or_false]
  · rfl
end Dot

theorem cases_dot (s : ByteArray) (k : Nat) (hlt : k < s.size) : (((s[k].toNat : Int) == 46) = false ∧ Dot.dot (s.data.toList.drop k) = false) ∨
            (((s[k].toNat : Int) == 46) = true ∧ s.size = k + 1 ∧ Dot.dot (s.data.toList.drop k) = true) ∨
            (((s[k].toNat : Int) == 46) = true ∧ ∃ h : k + 1 < s.size, (((s[k + 1]'h).toNat : Int) == 46) = false ∧ Dot.dot (s.data.toList.drop k) = Dot.term (s[k + 1]'h)) ∨
            (((s[k].toNat : Int) == 46) = true ∧ ∃ h : k + 1 < s.size, (((s[k + 1]'h).toNat : Int) == 46) = true ∧ s.size = k + 2 ∧ Dot.dot (s.data.toList.drop k) = true) ∨
            (((s[k].toNat : Int) == 46) = true ∧ ∃ h : k + 1 < s.size, (((s[k + 1]'h).toNat : Int) == 46) = true ∧ ∃ h' : k + 2 < s.size, Dot.dot (s.data.toList.drop k) = Dot.term (s[k + 2]'h')) := by
  have dk : ∀ j (h : j < s.size), s.data.toList.drop j = (s[j]'h) :: s.data.toList.drop (j + 1) := fun j h => by
    have hx := Lib.data_getElem? s j h
    rw [List.drop_eq_getElem_cons (List.getElem?_eq_some_iff.1 hx).1, (List.getElem?_eq_some_iff.1 hx).2]
  have de : s.data.toList.drop s.size = [] := by rw [Lib.size_eq]; exact List.drop_length
  have b46 : ∀ x : UInt8, ((x.toNat : Int) == 46) = (x == 46) := fun x => beq_u8 x 46
  simp only [b46]
  rw [dk k hlt]
  cases c0 : (s[k] == 46)
  · exact .inl ⟨rfl, Dot.dot_other _ _ c0⟩
  · have e0 : s[k] = 46 := beq_iff_eq.1 c0
    rw [e0]
    by_cases h1 : k + 1 < s.size
    · rw [dk (k + 1) h1]
      cases c1 : ((s[k + 1]'h1) == 46)
      · exact .inr (.inr (.inl ⟨rfl, h1, c1, Dot.dot_one _ _ c1⟩))
      · have e1 : s[k + 1]'h1 = 46 := beq_iff_eq.1 c1
        by_cases h2 : k + 2 < s.size
        · refine .inr (.inr (.inr (.inr ⟨rfl, h1, c1, h2, ?_⟩)))
          rw [e1, dk (k + 1 + 1) h2]
          exact Dot.dot_two _ _
        · have hs2 : s.size = k + 2 := by omega
          refine .inr (.inr (.inr (.inl ⟨rfl, h1, c1, hs2, ?_⟩)))
          rw [e1, show k + 1 + 1 = s.size from by omega, de]
          exact Dot.dot_two_end
    · have hs1 : s.size = k + 1 := by omega
      refine .inr (.inl ⟨rfl, hs1, ?_⟩)
      rw [← hs1, de]
      exact Dot.dot_one_end

set_option maxRecDepth 100000 in
set_option maxHeartbeats 2000000 in
theorem scan_any (s : ByteArray) (w : World) (hs : s.size ≤ 1048576) :
    Calls Try.prog 13 #[.string s] w fun e w' => e = .returned (.bool (Dot.anyDot true s.data.toList)) ∧ w' = w := by
  go_enter Try.func13, Try.ntmps13
  go_wp2
  go_loop [3] (fun s3 => ∃ k : Nat, k ≤ s.size ∧ s3 = .int .i64 k ∧ Dot.anyDot true s.data.toList = Dot.anyDot (Dot.st s.data.toList k) (s.data.toList.drop k)) (fun s3 => s.size - (intOf s3).toNat)
  case atStart => exact ⟨0, Nat.zero_le _, rfl, by simp [Dot.st]⟩
  case round =>
    obtain ⟨k, hk, rfl, hrel⟩ := hrel
    have HR := hid hrel
    clear hrel
    by_cases hlt : k < s.size
    · have HX : Hid (s.data.toList[k]? = some s[k]) := Lib.data_getElem? s k hlt
      have HDK : Hid (s.data.toList.drop k = s[k] :: s.data.toList.drop (k + 1)) := by
        show _ = _
        have h := HX.out
        rw [List.drop_eq_getElem_cons (List.getElem?_eq_some_iff.1 h).1, (List.getElem?_eq_some_iff.1 h).2]
      have HNO : Hid ((Dot.st s.data.toList k && Dot.dot (s.data.toList.drop k)) = false → Dot.anyDot true s.data.toList = Dot.anyDot (Dot.st s.data.toList (k + 1)) (s.data.toList.drop (k + 1))) := fun h => HR.out.trans (Dot.step_no _ k _ HX.out h)
      have HYES : Hid ((Dot.st s.data.toList k && Dot.dot (s.data.toList.drop k)) = true → Dot.anyDot true s.data.toList = true) := fun h => HR.out.trans (Dot.step_yes _ k (by rw [← Lib.size_eq]; exact hlt) h)
      clear HR
      by_cases hst : Dot.st s.data.toList k = true
      · have HST := hid hst
        -- where the segment starts
        have hstart : k = 0 ∨ (0 < k ∧ ∃ h : k - 1 < s.size, Dot.sep (s[k - 1]'h) = true) := by
          by_cases h0 : k = 0
          · exact .inl h0
          · right
            refine ⟨by omega, by omega, ?_⟩
            unfold Dot.st at hst
            rw [List.getD_eq_getElem?_getD, Lib.data_getElem? s (k - 1) (by omega)] at hst
            simpa [h0] using hst
        clear hst
        -- what stands there
        have hcase : (((s[k].toNat : Int) == 46) = false ∧ Dot.dot (s.data.toList.drop k) = false) ∨
            (((s[k].toNat : Int) == 46) = true ∧ s.size = k + 1 ∧ Dot.dot (s.data.toList.drop k) = true) ∨
            (((s[k].toNat : Int) == 46) = true ∧ ∃ h : k + 1 < s.size, (((s[k + 1]'h).toNat : Int) == 46) = false ∧ Dot.dot (s.data.toList.drop k) = Dot.term (s[k + 1]'h)) ∨
            (((s[k].toNat : Int) == 46) = true ∧ ∃ h : k + 1 < s.size, (((s[k + 1]'h).toNat : Int) == 46) = true ∧ s.size = k + 2 ∧ Dot.dot (s.data.toList.drop k) = true) ∨
            (((s[k].toNat : Int) == 46) = true ∧ ∃ h : k + 1 < s.size, (((s[k + 1]'h).toNat : Int) == 46) = true ∧ ∃ h' : k + 2 < s.size, Dot.dot (s.data.toList.drop k) = Dot.term (s[k + 2]'h')) :=
          cases_dot s k hlt
        clear HDK
        rcases hstart with h0 | ⟨h0, hkp, hsp⟩
        all_goals first
          | (have h0' : ¬ ((0 : Int) < (k : Int)) := by omega
             have HK0 := hid h0
             clear h0
             go_upto_region 5 with (go_at_call 30; refine (isSep_any _ _).mono ?_; rintro e w' ⟨rfl, rfl⟩))
          | (have HSP := hid hsp
             clear hsp
             go_upto_region 5 with (go_at_call 30; refine (isSep_any _ _).mono ?_; rintro e w' ⟨rfl, rfl⟩; rw [HSP.out]))
        all_goals
          rcases hcase with ⟨c0, hd⟩ | ⟨c0, hsz, hd⟩ | ⟨c0, hk1, c1, hd⟩ | ⟨c0, hk1, c1, hsz, hd⟩ | ⟨c0, hk1, c1, hk2, hd⟩
          · have HD := hid hd
            clear hd
            go_wp2
            refine wp_loop_rounds 1 ?_
            rw [rounds_succ]
            go_wp2
            go_round
            case rel => exact ⟨k + 1, by omega, by go_num, HNO.out (by rw [HD.out, Bool.and_false])⟩
            case measure => simp [intOf]; omega
          · have HD := hid hd
            have hz1 : ¬ ((k : Int) + 1 < (s.size : Int)) := by omega
            have hz2 : (((k : Int) + 1) == (s.size : Int)) = true := by rw [beq_iff_eq]; omega
            have hz3 : (((k : Int) + 1) == (k : Int)) = false := by rw [beq_eq_false_iff_ne]; omega
            clear hd hsz
            go_wp2
            refine wp_loop_rounds 2 ?_
            rw [rounds_succ]
            go_wp2
            rw [rounds_succ]
            go_wp2
            go_ret
            exact ⟨by rw [HYES.out (by rw [HST.out, HD.out]; rfl)]; rfl, rfl⟩
          · have HD := hid hd
            have hz2 : (((k : Int) + 1) == (s.size : Int)) = false := by rw [beq_eq_false_iff_ne]; omega
            have hz3 : (((k : Int) + 1) == (k : Int)) = false := by rw [beq_eq_false_iff_ne]; omega
            have b59 : (((s[k + 1]'hk1).toNat : Int) == 59) = ((s[k + 1]'hk1) == 59) := beq_u8 _ 59
            clear hd
            cases hsx : Dot.sep (s[k + 1]'hk1)
            · cases h59 : ((s[k + 1]'hk1) == 59)
              · rw [h59] at b59
                have HT : Hid (Dot.term (s[k + 1]'hk1) = false) := by show _ = _; unfold Dot.term; rw [hsx, h59]; rfl
                have HSX := hid hsx
                clear hsx h59
                go_wp2
                refine wp_loop_rounds 2 ?_
                rw [rounds_succ]
                go_wp2
                rw [rounds_succ]
                go_wp2_with (go_at_call 30; refine (isSep_any _ _).mono ?_; rintro e w' ⟨rfl, rfl⟩; rw [HSX.out])
                go_round
                case rel => exact ⟨k + 1, by omega, by go_num, HNO.out (by rw [HD.out, HT.out, Bool.and_false])⟩
                case measure => simp [intOf]; omega
              · rw [h59] at b59
                have HT : Hid (Dot.term (s[k + 1]'hk1) = true) := by show _ = _; unfold Dot.term; rw [hsx, h59]; rfl
                have HSX := hid hsx
                clear hsx h59
                go_wp2
                refine wp_loop_rounds 2 ?_
                rw [rounds_succ]
                go_wp2
                rw [rounds_succ]
                go_wp2_with (go_at_call 30; refine (isSep_any _ _).mono ?_; rintro e w' ⟨rfl, rfl⟩; rw [HSX.out])
                go_ret
                exact ⟨by rw [HYES.out (by rw [HST.out, HD.out, HT.out]; rfl)]; rfl, rfl⟩
            · have HT : Hid (Dot.term (s[k + 1]'hk1) = true) := by show _ = _; unfold Dot.term; rw [hsx]; rfl
              have HSX := hid hsx
              clear hsx b59
              go_wp2
              refine wp_loop_rounds 2 ?_
              rw [rounds_succ]
              go_wp2
              rw [rounds_succ]
              go_wp2_with (go_at_call 30; refine (isSep_any _ _).mono ?_; rintro e w' ⟨rfl, rfl⟩; rw [HSX.out])
              go_ret
              exact ⟨by rw [HYES.out (by rw [HST.out, HD.out, HT.out]; rfl)]; rfl, rfl⟩
          · have HD := hid hd
            have hz2 : (((k : Int) + 2) == (s.size : Int)) = true := by rw [beq_iff_eq]; omega
            have hz3 : (((k : Int) + 2) == (k : Int)) = false := by rw [beq_eq_false_iff_ne]; omega
            have hz1 : ¬ ((k : Int) + 2 < (s.size : Int)) := by omega
            clear hd hsz
            go_wp2
            refine wp_loop_rounds 3 ?_
            rw [rounds_succ]
            go_wp2
            rw [rounds_succ]
            go_wp2
            rw [rounds_succ]
            go_wp2
            go_ret
            exact ⟨by rw [HYES.out (by rw [HST.out, HD.out]; rfl)]; rfl, rfl⟩
          · have hk3 : k + 1 + 1 < s.size := hk2
            have HD : Hid (Dot.dot (s.data.toList.drop k) = Dot.term (s[k + 1 + 1]'hk3)) := hd
            have hz2 : (((k : Int) + 1 + 1) == (s.size : Int)) = false := by rw [beq_eq_false_iff_ne]; omega
            have hz3 : (((k : Int) + 1 + 1) == (k : Int)) = false := by rw [beq_eq_false_iff_ne]; omega
            have hz1 : ¬ ((k : Int) + 1 + 1 < (k : Int) + 2) := by omega
            have b59 : (((s[k + 1 + 1]'hk3).toNat : Int) == 59) = ((s[k + 1 + 1]'hk3) == 59) := beq_u8 _ 59
            clear hd hk2
            cases hsx : Dot.sep (s[k + 1 + 1]'hk3)
            · cases h59 : ((s[k + 1 + 1]'hk3) == 59)
              · rw [h59] at b59
                have HT : Hid (Dot.term (s[k + 1 + 1]'hk3) = false) := by show _ = _; unfold Dot.term; rw [hsx, h59]; rfl
                have HSX := hid hsx
                clear hsx h59
                go_wp2
                refine wp_loop_rounds 3 ?_
                rw [rounds_succ]
                go_wp2
                rw [rounds_succ]
                go_wp2
                rw [rounds_succ]
                go_wp2_with (go_at_call 30; refine (isSep_any _ _).mono ?_; rintro e w' ⟨rfl, rfl⟩; rw [HSX.out])
                go_round
                case rel => exact ⟨k + 1, by omega, by go_num, HNO.out (by rw [HD.out, HT.out, Bool.and_false])⟩
                case measure => simp [intOf]; omega
              · rw [h59] at b59
                have HT : Hid (Dot.term (s[k + 1 + 1]'hk3) = true) := by show _ = _; unfold Dot.term; rw [hsx, h59]; rfl
                have HSX := hid hsx
                clear hsx h59
                go_wp2
                refine wp_loop_rounds 3 ?_
                rw [rounds_succ]
                go_wp2
                rw [rounds_succ]
                go_wp2
                rw [rounds_succ]
                go_wp2_with (go_at_call 30; refine (isSep_any _ _).mono ?_; rintro e w' ⟨rfl, rfl⟩; rw [HSX.out])
                go_ret
                exact ⟨by rw [HYES.out (by rw [HST.out, HD.out, HT.out]; rfl)]; rfl, rfl⟩
            · have HT : Hid (Dot.term (s[k + 1 + 1]'hk3) = true) := by show _ = _; unfold Dot.term; rw [hsx]; rfl
              have HSX := hid hsx
              clear hsx b59
              go_wp2
              refine wp_loop_rounds 3 ?_
              rw [rounds_succ]
              go_wp2
              rw [rounds_succ]
              go_wp2
              rw [rounds_succ]
              go_wp2_with (go_at_call 30; refine (isSep_any _ _).mono ?_; rintro e w' ⟨rfl, rfl⟩; rw [HSX.out])
              go_ret
              exact ⟨by rw [HYES.out (by rw [HST.out, HD.out, HT.out]; rfl)]; rfl, rfl⟩
      · have hst' : Dot.st s.data.toList k = false := by simpa using hst
        have hk0 : 0 < k := by
          rcases Nat.eq_zero_or_pos k with h | h
          · subst h; exact absurd (by simp [Dot.st]) hst
          · exact h
        have hkp : k - 1 < s.size := by omega
        have HSP : Hid (Dot.sep (s[k - 1]'hkp) = false) := by
          have h := hst'
          unfold Dot.st at h
          rw [List.getD_eq_getElem?_getD, Lib.data_getElem? s (k - 1) hkp] at h
          have : (k == 0) = false := by rw [beq_eq_false_iff_ne]; omega
          rw [this] at h
          simp at h
          exact h
        have HST := hid hst'
        clear hst hst'
        go_wp2_with (go_at_call 30; refine (isSep_any _ _).mono ?_; rintro e w' ⟨rfl, rfl⟩; rw [HSP.out])
        go_round
        case rel => exact ⟨k + 1, by omega, by go_num, HNO.out (by rw [HST.out, Bool.false_and])⟩
        case measure => simp [intOf]; omega
    · have HF : Hid (Dot.anyDot true s.data.toList = false) := by
        show _ = _
        rw [HR.out, show k = s.size from by omega, Lib.size_eq, List.drop_length]
        rfl
      go_wp2
      go_ret
      exact ⟨by rw [HF.out]; rfl, rfl⟩

theorem zz11_any (s : ByteArray) (w : World) (hs : s.size ≤ maxLen) : Calls Try.prog 11 #[.string s] w fun e w' => e = .returned (.bool (decide (s.size ≤ 1048576))) ∧ w' = w := by
  unfold maxLen at hs
  by_cases h : s.size ≤ 1048576
  · have h' : ¬ ((1048576 : Int) < (s.size : Int)) := by omega
    have hd : decide (s.size ≤ 1048576) = true := by simpa using h
    rw [hd]
    clear hd h
    go_enter Try.func11, Try.ntmps11
    go_wp2
    go_ret
    exact ⟨rfl, rfl⟩
  · have h' : (1048576 : Int) < (s.size : Int) := by omega
    have hd : decide (s.size ≤ 1048576) = false := by simpa using h
    rw [hd]
    clear hd h
    go_enter Try.func11, Try.ntmps11
    go_wp2
    go_ret
    exact ⟨rfl, rfl⟩

theorem law3 (s : ByteArray) (hs : s.size ≤ maxLen) (w : World) :
    Calls Try.prog 3 #[.string s] w fun e w' => e = .returned (.bool true) ∧ Below w.heap.size w w' := by
  have HZ := hid (zz11_any s w hs)
  unfold maxLen at hs
  by_cases h : s.size ≤ 1048576
  · have hd : decide (s.size ≤ 1048576) = true := by simpa using h
    have HD := hid hd
    have HH := hid (hasDot_any s w h)
    have HSC := fun W => scan_any s W h
    have HSC' := hid HSC
    have h' : ¬ ((1048576 : Int) < (s.size : Int)) := by omega
    clear hd HSC h
    go_enter Try.func3, Try.ntmps3
    go_wp2_with fail
    refine HZ.out.mono ?_
    rintro e w1 ⟨rfl, hw1⟩
    have hw1' := hw1.symm
    subst hw1'
    rw [HD.out]
    go_wp2_with fail
    refine HH.out.mono ?_
    rintro e w2 ⟨rfl, hb2⟩
    have HB2 := hid hb2
    clear hb2
    go_wp2_with fail
    refine (HSC'.out _).mono ?_
    rintro e w3 ⟨rfl, hw3⟩
    have hw3' := hw3.symm
    subst hw3'
    go_wp2
    go_ret
    exact ⟨by simp, HB2.out⟩
  · have hd : decide (s.size ≤ 1048576) = false := by simpa using h
    have HD := hid hd
    clear hd
    go_enter Try.func3, Try.ntmps3
    go_wp2_with fail
    refine HZ.out.mono ?_
    rintro e w1 ⟨rfl, hw1⟩
    have hw1' := hw1.symm
    subst hw1'
    rw [HD.out]
    go_wp2
    go_ret
    exact ⟨rfl, Below.refl _ _⟩
end Go.Proofs.Qxb6000759a

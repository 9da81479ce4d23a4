/-
  strings.Cut (29) at ';', HasDotSegment (12), the scan model (13), the law (3).
-/
import Derived.Test.Qxb6000759aIdxAny
import Derived.Test.Qxb6000759aDot
import Derived.Deep.DeepCutAuto
namespace Go.Proofs.Qxb6000759a
open Go.RowKit

def PostCut (s : ByteArray) (w : World) (e : Ending) (w' : World) : Prop :=
  (∃ b a f, e = .returned (.tuple #[.string b, .string a, .bool f]) ∧ b.data.toList = s.data.toList.takeWhile (fun c => c != 59) ∧ b.size ≤ s.size) ∧ Below w.heap.size w w'

theorem ext_zero (s : ByteArray) (k : Nat) : (s.extract 0 k).data.toList = s.data.toList.take k := by
  rw [Lib.extract_data]; simp

set_option maxRecDepth 100000 in
set_option maxHeartbeats 1000000 in
theorem cut41 (s : ByteArray) (w : World) (hs : s.size ≤ 1048576) :
    Calls Try.prog 41 #[.string s, .string ⟨#[59]⟩] w (PostCut s w) := by
  have HI := hid (Try.stringslite_Index_one s 59 w)
  rcases Dot.indexByte_parts s.data.toList 59 with ⟨h1, _, h2⟩ | ⟨a, r, h1, h2, h3⟩
  · have HP := hid h2
    have HX := hid h1
    clear h1 h2
    go_enter Try.func41, Try.ntmps41
    go_wp2_with (go_at_call 45; refine HI.out.mono ?_; rintro e w' ⟨rfl, hw⟩; rw [hw, HX.out])
    go_ret3
    exact ⟨⟨s, _, false, rfl, HP.out.symm, Nat.le_refl _⟩, Below.refl _ _⟩
  · have hl : a.length < s.size := by
      have := congrArg List.length h1
      rw [← Lib.size_eq] at this
      simp at this
      omega
    have HP := hid h3
    have HX := hid h2
    have H1 := hid h1
    clear h1 h2 h3
    have hk1 : (a.length : Int) ≤ (s.size : Int) := by omega
    have hk2 : (a.length : Int) + 1 ≤ (s.size : Int) := by omega
    have hwr : IntKind.i64.wrap ((a.length : Int) + 1) = (a.length : Int) + 1 := wrap_small _ (by omega) (by omega)
    go_enter Try.func41, Try.ntmps41
    go_wp2_with (go_at_call 45; refine HI.out.mono ?_; rintro e w' ⟨rfl, hw⟩; rw [hw, HX.out])
    go_quiet (fail)
    go_wp2
    go_ret3
    refine ⟨⟨s.extract 0 a.length, _, true, rfl, ?_, ?_⟩, below_drewN (Below.refl _ _) _⟩
    · rw [ext_zero, HP.out, H1.out]; simp
    · rw [ByteArray.size_extract]; omega

theorem cut_any (s : ByteArray) (w : World) (hs : s.size ≤ 1048576) :
    Calls Try.prog 29 #[.string s, .string ⟨#[59]⟩] w (PostCut s w) := by
  have HC := hid (cut41 s w hs)
  clear hs
  go_enter Try.func29, Try.ntmps29
  go_wp2_with (go_at_call 41; refine HC.out.mono ?_; rintro e w' ⟨⟨b, a, f, rfl, hb, hz⟩, hbel⟩)
  go_ret3
  exact ⟨⟨b, a, f, rfl, hb, hz⟩, hbel⟩

set_option maxRecDepth 100000 in
set_option maxHeartbeats 2000000 in
theorem hasDot_any (s : ByteArray) (w : World) (hs : s.size ≤ 1048576) :
    Calls Try.prog 12 #[.string s] w fun e w' => e = .returned (.bool (Dot.anyDot true s.data.toList)) ∧ Below w.heap.size w w' := by
  by_cases hc : (0 : Int) ≤ Lib.indexByte s.data.toList 46
  · have hd : decide ((0 : Int) ≤ Lib.indexByte s.data.toList 46) = true := by simpa using hc
    have HD := hid hd
    clear hd hc
    go_enter Try.func12, Try.ntmps12
    go_wp2_with (go_at_call 27; refine (Try.strings_Contains_one _ 46 _).mono ?_; rintro e w' ⟨rfl, hw⟩; rw [hw, HD.out])
    go_loopg [0] s.size (fun g s0 wx => ∃ r : ByteArray, s0 = .string r ∧ r.size ≤ g ∧ g ≤ s.size ∧ Dot.anyDot true r.data.toList = Dot.anyDot true s.data.toList ∧ Below w.heap.size w wx)
    case atStart => exact ⟨s, rfl, Nat.le_refl _, Nat.le_refl _, rfl, Below.refl _ _⟩
    case round =>
      obtain ⟨r, rfl, hr1, hr2, hr3, hbel⟩ := hrel
      have HR3 := hid hr3
      have HB := hid hbel
      clear hr3 hbel
      by_cases hr0 : r.size = 0
      · have hre : r.toList.isEmpty = true := by
          rw [Lib.toList_data, List.isEmpty_iff]
          exact List.eq_nil_of_length_eq_zero (by rw [← Lib.size_eq]; exact hr0)
        have HF : Hid (Dot.anyDot true s.data.toList = false) := by
          show _ = _
          rw [← HR3.out, List.eq_nil_of_length_eq_zero (show r.data.toList.length = 0 by rw [← Lib.size_eq]; exact hr0)]
          rfl
        clear hr0
        go_wp2_with fail
        go_ret
        exact ⟨by rw [HF.out]; rfl, HB.out⟩
      · have hne : r.data.toList ≠ [] := fun e => hr0 (by rw [Lib.size_eq, e]; rfl)
        have hre : r.toList.isEmpty = false := by
          rw [Lib.toList_data]
          cases h : r.data.toList with
          | nil => exact absurd h hne
          | cons _ _ => rfl
        have HNE := hid hne
        clear hne
        rcases Dot.indexAny_parts r.data.toList [47, 92] with ⟨h1, h2⟩ | ⟨a, t, q, h1, h2, h3, h4⟩
        · have HX := hid h1
          have HS := hid (Dot.sep_all h2)
          clear h1 h2
          go_upto_region 9 with (go_at_call 28; refine (idxAny_any r _ (by omega)).mono ?_; rintro e w2 ⟨rfl, hb2⟩; rw [HX.out])
          have HB2 := hid (HB.out.trans (hb2.mono HB.out.size))
          clear hb2
          go_wp2_with fail
          refine (cut_any r _ (by omega)).mono ?_
          rintro e w3 ⟨⟨b, af, f, rfl, hb, hz⟩, hb3⟩
          have HB3 := hid (HB2.out.trans (hb3.mono HB2.out.size))
          have HDOT : Hid (Dot.anyDot true s.data.toList = (b.toList == [46] || b.toList == [46, 46])) := by
            show _ = _
            rw [← HR3.out, Dot.anyDot_last _ HS.out HNE.out, Lib.toList_data, hb]
            unfold Dot.dot
            rw [Dot.take_last _ HS.out]
          clear hb hz hb3
          cases e1 : (b.toList == [46])
          · cases e2 : (b.toList == [46, 46])
            · rw [e1, e2] at HDOT
              go_wp2
              go_roundg 0
              case measure => omega
              case rel => exact ⟨⟨#[]⟩, rfl, Nat.le_refl _, Nat.zero_le _, by rw [HDOT.out]; rfl, HB3.out⟩
            · rw [e1, e2] at HDOT
              go_wp2
              go_ret
              exact ⟨by rw [HDOT.out]; rfl, HB3.out⟩
          · rw [e1] at HDOT
            go_wp2
            go_ret
            exact ⟨by rw [HDOT.out]; rfl, HB3.out⟩
        · have HX := hid h2
          have HE := hid h1
          have HA := hid (Dot.sep_all h3)
          have HT := hid (Dot.sep_one h4)
          have hl : a.length < r.size := by
            have := congrArg List.length h1
            rw [← Lib.size_eq] at this
            simp at this
            omega
          clear h1 h2 h3 h4
          have hk1 : (a.length : Int) ≤ (r.size : Int) := by omega
          have hk2 : (a.length : Int) + 1 ≤ (r.size : Int) := by omega
          have hwr : IntKind.i64.wrap ((a.length : Int) + 1) = (a.length : Int) + 1 := wrap_small _ (by omega) (by omega)
          go_upto_region 7 with (go_at_call 28; refine (idxAny_any r _ (by omega)).mono ?_; rintro e w2 ⟨rfl, hb2⟩; rw [HX.out])
          go_quiet (fail)
          have HB2 := hid (below_drewN (HB.out.trans (hb2.mono HB.out.size)) nq)
          clear hb2
          generalize w2.drewN nq = w2' at *
          have hseg : (r.extract 0 a.length).data.toList = a := by rw [ext_zero, HE.out]; simp
          have hpth : (r.extract (a.length + 1) r.size).data.toList = q := by
            rw [Lib.extract_to_end, HE.out]
            simp
          have hss : (r.extract 0 a.length).size ≤ r.size := by rw [ByteArray.size_extract]; omega
          have hps : (r.extract (a.length + 1) r.size).size < r.size := by rw [ByteArray.size_extract]; omega
          have HSG := hid hseg
          have HPT := hid hpth
          have HSS := hid hss
          have HPS := hid hps
          clear hseg hpth hss hps
          generalize r.extract 0 a.length = sg at *
          generalize r.extract (a.length + 1) r.size = pt at *
          go_wp2_with fail
          refine (cut_any sg _ (by have := HSS.out; omega)).mono ?_
          rintro e w3 ⟨⟨b, af, f, rfl, hb, hz⟩, hb3⟩
          have HB3 := hid (HB2.out.trans (hb3.mono HB2.out.size))
          have HDOT : Hid (Dot.anyDot true s.data.toList = ((b.toList == [46] || b.toList == [46, 46]) || Dot.anyDot true pt.data.toList)) := by
            show _ = _
            rw [← HR3.out, HE.out, Dot.anyDot_seg _ _ _ HA.out HT.out, Lib.toList_data, hb, HSG.out, HPT.out]
            unfold Dot.dot
            rw [Dot.take_take _ _ _ HA.out HT.out]
          clear hb hz hb3
          cases e1 : (b.toList == [46])
          · cases e2 : (b.toList == [46, 46])
            · rw [e1, e2] at HDOT
              go_wp2
              go_roundg (gk - 1)
              case measure => omega
              case rel => exact ⟨pt, rfl, by have := HPS.out; omega, by omega, by rw [HDOT.out]; simp, HB3.out⟩
            · rw [e1, e2] at HDOT
              go_wp2
              go_ret
              exact ⟨by rw [HDOT.out]; rfl, HB3.out⟩
          · rw [e1] at HDOT
            go_wp2
            go_ret
            exact ⟨by rw [HDOT.out]; rfl, HB3.out⟩
  · have hd : decide ((0 : Int) ≤ Lib.indexByte s.data.toList 46) = false := by simpa using hc
    have HD := hid hd
    have HF : Hid (Dot.anyDot true s.data.toList = false) := by
      rcases Dot.indexByte_parts s.data.toList 46 with ⟨_, h, _⟩ | ⟨a, r, _, h, _⟩
      · exact Dot.anyDot_has true _ h
      · exact absurd (by rw [h]; omega) hc
    clear hd hc
    go_enter Try.func12, Try.ntmps12
    go_wp2_with (go_at_call 27; refine (Try.strings_Contains_one _ 46 _).mono ?_; rintro e w' ⟨rfl, hw⟩; rw [hw, HD.out])
    go_ret
    exact ⟨by rw [HF.out]; rfl, Below.refl _ _⟩
end Go.Proofs.Qxb6000759a

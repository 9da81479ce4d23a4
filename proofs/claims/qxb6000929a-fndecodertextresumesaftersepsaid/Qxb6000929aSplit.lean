/-
  FnDecoderTextSplitsAtEverySep (3): plain laws and the walk.
-/
import Derived.Test.Qxb6000929aText
import Derived.Lib.SlBytesRow
import Derived.Deep.DeepCutAuto
namespace Go.Proofs.Qxb6000929a
open Go.RowKit

/-! ### Plain -/
theorem tw_of (l : List UInt8) (m : Nat) (h : ∀ j x, j < m → l[j]? = some x → x ≠ 124) (hm : m = l.length ∨ l[m]? = some 124) :
    l.takeWhile (fun c => c != 124) = l.take m ∧ l.dropWhile (fun c => c != 124) = l.drop m := by
  induction l generalizing m with
  | nil =>
    simp
  | cons b l ih =>
    cases m with
    | zero =>
      rcases hm with h0 | h0
      · simp at h0
      · simp at h0; subst h0; simp
    | succ m =>
      have hb : b ≠ 124 := h 0 b (by omega) rfl
      have hbn : (b != 124) = true := bne_iff_ne.2 hb
      have := ih m (fun j x hj hx => h (j + 1) x (by omega) (by simpa using hx)) (by simpa using hm)
      rw [List.takeWhile_cons, List.dropWhile_cons, hbn]
      simp only [if_true, List.take_succ_cons, List.drop_succ_cons]
      exact ⟨by rw [this.1], this.2⟩

structure S3 (L : List UInt8) (k p : Nat) (fst : Bool) (r J : List UInt8) : Prop where
  le : p ≤ k
  no : ∀ j x, p ≤ j → j < k → L[j]? = some x → x ≠ 124
  f1 : fst = true → p = 0 ∧ r = L ∧ J = []
  f2 : fst = false → 1 ≤ p ∧ r = L.drop (p - 1) ∧ J = L.take (p - 1) ∧ (p ≤ L.length → L[p - 1]? = some 124)
  last : L.length < k → p = L.length + 1 ∧ fst = false

theorem S3.start (L : List UInt8) : S3 L 0 0 true L [] := ⟨Nat.le_refl _, fun j x h1 h2 => absurd h2 (by omega), fun _ => ⟨rfl, rfl, rfl⟩, (fun h => by cases h), fun h => absurd h (by omega)⟩

theorem S3.skip {L : List UInt8} {k p : Nat} {fst : Bool} {r J : List UInt8} (h : S3 L k p fst r J) (x : UInt8) (hx : L[k]? = some x) (hn : x ≠ 124) : S3 L (k + 1) p fst r J := by
  have hk : k < L.length := (List.getElem?_eq_some_iff.1 hx).1
  refine ⟨Nat.le_succ_of_le h.le, fun j y h1 h2 hy => ?_, h.f1, h.f2, fun hl => absurd hl (by omega)⟩
  by_cases e : j = k
  · subst e; rw [hx] at hy; cases hy; exact hn
  · exact h.no j y h1 (by omega) hy

/-- what the read that comes next looks at -/
theorem S3.view {L : List UInt8} {k p : Nat} {fst : Bool} {r J : List UInt8} (h : S3 L k p fst r J) (hk : k ≤ L.length) (hend : k = L.length ∨ L[k]? = some 124) :
    (fst = false → r = 124 :: L.drop p) ∧ (L.drop p).takeWhile (fun c => c != 124) = (L.drop p).take (k - p) ∧ (L.drop p).dropWhile (fun c => c != 124) = L.drop k := by
  have hle := h.le
  have htw := tw_of (L.drop p) (k - p) (fun j x hj hx => by
    rw [List.getElem?_drop] at hx
    exact h.no (p + j) x (by omega) (by omega) hx) (by
    rcases hend with e | e
    · left; rw [List.length_drop, e]
    · right; rw [List.getElem?_drop, show p + (k - p) = k from by omega]; exact e)
  refine ⟨fun hf => ?_, htw.1, by rw [htw.2, List.drop_drop, show p + (k - p) = k from by omega]⟩
  obtain ⟨h1, h2, _, h4⟩ := h.f2 hf
  have h5 := h4 (by omega)
  rw [h2, List.drop_eq_getElem_cons (List.getElem?_eq_some_iff.1 h5).1, (List.getElem?_eq_some_iff.1 h5).2, show p - 1 + 1 = p from by omega]

theorem S3.take {L : List UInt8} {k p : Nat} {fst : Bool} {r J : List UInt8} (h : S3 L k p fst r J) (hk : k ≤ L.length) (hend : k = L.length ∨ L[k]? = some 124) :
    S3 L (k + 1) (k + 1) false (L.drop k) (J ++ ((if fst then [] else [124]) ++ (L.drop p).take (k - p))) := by
  have hle := h.le
  refine ⟨Nat.le_refl _, fun j x h1 h2 => absurd h2 (by omega), (fun e => by cases e), fun _ => ⟨by omega, rfl, ?_, fun hl => ?_⟩, fun hl => ⟨by omega, rfl⟩⟩
  · rw [Nat.add_sub_cancel]
    cases fst with
    | true =>
      obtain ⟨h1, _, h3⟩ := h.f1 rfl
      subst h1 h3
      simp
    | false =>
      obtain ⟨h1, _, h3, h4⟩ := h.f2 rfl
      have h5 := h4 (by omega)
      subst h3
      have e1 : L.take p = L.take (p - 1) ++ [124] := by
        have := List.take_succ_eq_append_getElem (List.getElem?_eq_some_iff.1 h5).1
        rw [(List.getElem?_eq_some_iff.1 h5).2, show p - 1 + 1 = p from by omega] at this
        exact this
      have e2 : L.take k = L.take p ++ (L.drop p).take (k - p) := by
        rw [show L.take k = L.take (p + (k - p)) from by rw [show p + (k - p) = k from by omega], List.take_add]
      rw [e2, e1]
      simp
  · rw [Nat.add_sub_cancel]
    rcases hend with e | e
    · omega
    · exact e

/-! ### The walk -/
theorem door7 (g : Nat) (w : World) (Q : Ending → World → Prop) (h : Calls Try.prog 13 #[.pointer (some ⟨g, 0, none⟩)] w Q) (hq : ∀ e w', Q e w' → ∃ t, e = .returned (.string t)) : Calls Try.prog 7 #[.pointer (some ⟨g, 0, none⟩)] w Q := by
  have H := hid h
  have HQ := hid hq
  clear h hq
  go_enter Try.func7, Try.ntmps7
  go_wp2_with fail
  refine H.out.mono ?_
  rintro e w' hw
  obtain ⟨t, rfl⟩ := HQ.out e w' hw
  have HW := hid hw
  clear hw
  go_wp2
  exact HW.out

/-- bytes as cells -/
def cellsU (l : List UInt8) : List Value := l.map fun b => Value.int .u8 b.toNat

theorem cellsU_append (a b : List UInt8) : cellsU (a ++ b) = cellsU a ++ cellsU b := by simp [cellsU]
theorem strCells_eq (t : ByteArray) : Lib.strCells t = cellsU t.data.toList := rfl
theorem bytes_row {B : Nat} {w : World} {g n c : Nat} {s : ByteArray} (h : Row 5 B w g n c (cellsU s.data.toList)) : Lib.Bytes w g 0 s := by
  intro i hi
  have hl := h.len
  have hn : i < n := by rw [← hl]; simp [cellsU]; exact hi
  rw [Nat.zero_add, h.cell i hn]
  unfold cellsU
  rw [List.getElem?_map, Lib.data_getElem? s i hi]
  rfl

theorem ba_eq {a b : ByteArray} (h : a.data.toList = b.data.toList) : a = b := by
  apply ByteArray.ext
  exact Array.ext' h

theorem Dec.kept {w w' : World} {g g1 g2 : Nat} {r : ByteArray} {st bd : Bool} (h : Dec w g r st bd) (hg : GrewB w w' g1 g2) (hne : g ≠ g1) : Dec w' g r st bd := by
  unfold Dec
  rw [hg.grown.block g h.lt (by intro e; exact hne (by simpa using e))]
  exact h
theorem Dec.keptB {w w' : World} {g g1 : Nat} {r : ByteArray} {st bd : Bool} (h : Dec w g r st bd) (hg : ButG w w' g1) (hne : g ≠ g1) : Dec w' g r st bd := by
  unfold Dec
  rw [hg.1.block g h.lt (by intro e; exact hne (by simpa using e))]
  exact h
theorem Row.keptB {e : TypeId} {B : Nat} {w w' : World} {g n c g1 : Nat} {xs : List Value} (h : Row e B w g n c xs) (hg : ButG w w' g1) (hne : g ≠ g1) : Row e B w' g n c xs :=
  ⟨h.1.kept hg.1 (.inr (by simp [Value.ownBlock]; exact hne)), by rw [hg.2]; exact h.2⟩

def Rel3 (s : ByteArray) (w : World) (gk : Nat) (s4 s5 s6 s7 : Value) (wr : World) : Prop :=
  ∃ (k p gj nj cj : Nat) (fst : Bool) (r : ByteArray) (J : List UInt8), k + gk = s.size + 1 ∧ s7 = .int .i64 k ∧ s5 = .int .i64 p ∧ s6 = .bool fst ∧ s4 = .slice (some ⟨gj, 0, none⟩) nj cj ∧
    Dec wr w.heap.size r (!fst) false ∧ Row 5 (w.heap.size + 1) wr gj nj cj (cellsU J) ∧ S3 s.data.toList k p fst r.data.toList J ∧ J.length ≤ s.size ∧ Below w.heap.size w wr

theorem rel3_take {s : ByteArray} {w w3 : World} {gk k p g3 n3 c3 : Nat} {J m : List UInt8} {r2 : ByteArray} {xs : List Value} (hkg : k + (gk + 1) = s.size + 1)
    (hS : S3 s.data.toList (k + 1) (k + 1) false (s.data.toList.drop k) (J ++ (m ++ (s.data.toList.drop p).take (k - p)))) (hr2 : r2.data.toList = s.data.toList.drop k)
    (hd : Dec w3 w.heap.size r2 true false) (hrow : Row 5 (w.heap.size + 1) w3 g3 n3 c3 xs) (hxs : xs = cellsU (J ++ (m ++ (s.data.toList.drop p).take (k - p)))) (hb : Below w.heap.size w w3) :
    Rel3 s w gk (.slice (some ⟨g3, 0, none⟩) n3 c3) (.int .i64 ((k : Int) + 1)) (.bool false) (.int .i64 ((k : Int) + 1)) w3 := by
  refine ⟨k + 1, k + 1, g3, n3, c3, false, r2, _, by omega, by go_num, by go_num, rfl, rfl, hd, by rw [← hxs]; exact hrow, by rw [hr2]; exact hS, ?_, hb⟩
  rw [(hS.f2 rfl).2.2.1, List.length_take, ← Lib.size_eq]
  omega

theorem ext_size (s : ByteArray) (p k : Nat) (hk : k ≤ s.size) : (s.extract p k).size = k - p := by rw [ByteArray.size_extract]; omega

set_option maxRecDepth 100000 in
set_option maxHeartbeats 2000000 in
theorem law3 (s : ByteArray) (hs : s.size ≤ maxLen) (w : World) :
    Calls Try.prog 3 #[.string s] w fun e w' => e = .returned (.bool true) ∧ Below w.heap.size w w' := by
  unfold maxLen at hs
  by_cases hbig : s.size ≤ 1048576
  · have hb1 : ¬ ((1048576 : Int) < (s.size : Int)) := by omega
    obtain ⟨i0, hi, hz0, hz1, hz2⟩ := info_parts Try.info5
    go_enter Try.func3, Try.ntmps3
    go_wp2_with (first | go_in | (at_make; refine wpList_make_own _ (by rfl) _ _ 25 (by rfl) (w.heap.size + 1) 5 i0 (.int .u8 0) 1 Try.underlying25 hi hz0 hz1 .i64 .i64 _ s.size (by rfl) (by rfl) (by rfl) (by rw [hz2]; omega) (by unfold maxLen; omega) (by simp) ?_; intro w1 hown1 hgr1))
    have HD0 : Hid (Dec w1 w.heap.size s false false) := by
      show _ = _
      rw [hgr1.block w.heap.size (by simp) (by simp)]
      exact heap_alloc_new w _
    have HR0 : Hid (Row 5 (w.heap.size + 1) w1 (w.heap.size + 1) 0 s.size []) := ⟨by simpa using hown1, by have := hgr1.size; simpa using this⟩
    have HB0 : Hid (Below w.heap.size w w1) := ((Below.refl w.heap.size w).alloc (Nat.le_refl _) _).grown hgr1 (by simp) (fun k hk => by cases hk)
    clear hown1 hgr1 hi hz0 hz1 hz2 i0
    go_loopg [4, 5, 6, 7] (s.size + 1) (fun gk s4 s5 s6 s7 wr => Rel3 s w gk s4 s5 s6 s7 wr)
    case atStart => exact ⟨0, 0, _, 0, _, true, s, [], by omega, rfl, rfl, rfl, rfl, HD0.out, HR0.out, S3.start _, by simp, HB0.out⟩
    case round =>
      obtain ⟨k, p, gj, nj, cj, fst, r, J, hkg, rfl, rfl, rfl, rfl, hdec, hrow, hS, hJ, hbel⟩ := hrel
      have HKG := hid hkg
      have HD := hid hdec
      have HR := hid hrow
      have HS := hid hS
      have HB := hid hbel
      have HJ := hid hJ
      have hne : gj ≠ w.heap.size := by have := hrow.lt; omega
      have HNE := hid hne
      have hnj : nj ≤ s.size := by have := hrow.len; simp [cellsU] at this; omega
      have hsl : s.data.toList.length = s.size := (Lib.size_eq s).symm
      have HSL := hid hsl
      clear hkg hdec hrow hS hbel hJ hne hsl HD0 HR0 HB0
      by_cases hk : k ≤ s.size
      · by_cases hskip : ∃ h : k < s.size, (s[k]'h) ≠ 124
        · obtain ⟨hlt, hx⟩ := hskip
          have hb : (((s[k]'hlt).toNat : Int) != 124) = true := by
            rw [bne_iff_ne]
            intro e
            exact hx (UInt8.toNat_inj.1 (by have : (124 : UInt8).toNat = 124 := rfl; omega))
          have HS2 := hid (HS.out.skip (s[k]'hlt) (Lib.data_getElem? s k hlt) hx)
          clear hx
          go_wp2
          go_roundg (gk - 1)
          case measure => have := HKG.out; omega
          case rel => exact ⟨k + 1, p, gj, nj, cj, fst, r, J, by have := HKG.out; omega, by go_num, rfl, rfl, rfl, HD.out, HR.out, HS2.out, HJ.out, HB.out⟩
        · have hend : k = s.data.toList.length ∨ s.data.toList[k]? = some 124 := by
            by_cases h : k < s.size
            · right
              rw [Lib.data_getElem? s k h]
              by_cases e : (s[k]'h) = 124
              · rw [e]
              · exact absurd ⟨h, e⟩ hskip
            · left; rw [HSL.out]; omega
          obtain ⟨v1, v2, v3⟩ := HS.out.view (by rw [HSL.out]; exact hk) hend
          have HT := hid (HS.out.take (by rw [HSL.out]; exact hk) hend)
          have hpk : p ≤ k := HS.out.le
          have HV1 := hid v1
          have HTX : Hid (Calls Try.prog 7 #[.pointer (some ⟨w.heap.size, 0, none⟩)] wr (PostT wr w.heap.size (s.data.toList.drop p))) := by
            refine door7 _ _ _ ?_ (fun e w' ⟨t, _, h, _⟩ => ⟨t, h⟩)
            cases fst with
            | true =>
              obtain ⟨h1, h2, _⟩ := HS.out.f1 rfl
              subst h1
              rw [List.drop_zero, ← h2]
              exact text_first _ r _ HD.out (by rw [Lib.size_eq, h2, HSL.out]; omega)
            | false =>
              exact text_next _ r _ _ HD.out (by rw [Lib.size_eq, HV1.out rfl]; simp; have := HSL.out; omega) (HV1.out rfl)
          have V2 := hid v2
          have V3 := hid v3
          have hb : ∀ h : k < s.size, (((s[k]'h).toNat : Int) != 124) = false := fun h => by
            by_cases e : (s[k]'h) = 124
            · rw [e]; rfl
            · exact absurd ⟨h, e⟩ hskip
          clear hskip hend v1 v2 v3
          have hexk : (s.extract p k).data.toList = (s.data.toList.drop p).take (k - p) := by
            rw [Lib.extract_data]
          have HEX := hid hexk
          clear hexk
          by_cases hlt : k < s.size
          all_goals
            go_wp2_with fail
            refine HTX.out.mono ?_
            rintro e w2 ⟨t, r2, rfl, ht, hr2, hdec2, hbut⟩
            obtain rfl : t = s.extract p k := ba_eq (ht.trans (V2.out.trans HEX.out.symm))
            have HR2 := hid (HR.out.keptB hbut HNE.out)
            have HD2 := hid hdec2
            have HRR : Hid (r2.data.toList = s.data.toList.drop k) := hr2.trans V3.out
            have HB2 := hid (HB.out.grown hbut.1 HB.out.size (fun k' hk' => by have : w.heap.size = k' := by simpa using hk'
                                                                               omega))
            have c2 := hdec2.c2
            have hex : (s.extract p k).size ≤ s.size := by rw [ByteArray.size_extract]; omega
            have hpk2 : (p : Int) ≤ (k : Int) := by omega
            have hks : (k : Int) ≤ (s.size : Int) := by omega
            clear ht hr2 hdec2 hbut HTX HD HR HB V2 V3
            cases fst with
            | true =>
              go_upto_region 19 with (first | go_in | (at_builtin; refine app_str (by rfl) _ _ (by rfl) HR2.out (by rfl) (by rfl) (by omega) ?_; intro g3 c3 w3 hr3 hg3))
              have HD3 := hid (HD2.out.kept hg3 (Ne.symm HNE.out))
              have HB3 := hid (HB2.out.trans ((hg3.below (Nat.le_trans (Nat.le_succ _) HR2.out.lt.1) HB2.out.size)))
              rw [ext_size s p k hk] at hr3
              have HF := hid (rel3_take (gk := gk - 1) (m := []) (by have := HKG.out; omega) HT.out HRR.out HD3.out hr3 (by rw [strCells_eq, HEX.out, ← cellsU_append]; simp) HB3.out)
              clear hr3 hg3
              go_wp2
              go_roundg (gk - 1)
              case measure => have := HKG.out; omega
              case rel => exact HF.out
            | false =>
              go_upto_region 18 with (first | go_in | (at_builtin; refine app_new Try.underlying25 Try.info5 rfl (by rfl) _ _ (by rfl) HR2.out (by rfl) (by rfl) (by rfl) (by omega) (by rfl) (by omega) ?_; intro g3 c3 w3 hr3 hg3))
              have HR3 := hid hr3
              have HD3 := hid (HD2.out.kept hg3 (Ne.symm HNE.out))
              have HB3 := hid (HB2.out.trans ((hg3.below (Nat.le_trans (Nat.le_succ _) HR2.out.lt.1) HB2.out.size)))
              have HN3 : Hid (g3 ≠ w.heap.size) := by have := hr3.lt; show _ ≠ _; omega
              clear hr3 hg3
              go_upto_region 19 with (first | go_in | (at_builtin; refine app_str (by rfl) _ _ (by rfl) HR3.out (by rfl) (by rfl) (by omega) ?_; intro g4 c4 w4 hr4 hg4))
              have HD4 := hid (HD3.out.kept hg4 (Ne.symm HN3.out))
              have HB4 := hid (HB3.out.trans ((hg4.below (Nat.le_trans (Nat.le_succ _) HR3.out.lt.1) HB3.out.size)))
              rw [ext_size s p k hk] at hr4
              have HF := hid (rel3_take (gk := gk - 1) (m := [124]) (by have := HKG.out; omega) HT.out HRR.out HD4.out hr4 (by rw [strCells_eq, HEX.out, cellsU_append, cellsU_append]; simp [cellsU]) HB4.out)
              clear hr4 hg4
              go_wp2
              go_roundg (gk - 1)
              case measure => have := HKG.out; omega
              case rel => exact HF.out
      · have hkk : k = s.size + 1 := by have := HKG.out; omega
        obtain ⟨hp1, hf1⟩ := HS.out.last (by rw [HSL.out]; omega)
        subst hf1
        obtain ⟨_, hr1, hj1, _⟩ := HS.out.f2 rfl
        rw [hp1, Nat.add_sub_cancel, List.drop_length] at hr1
        rw [hp1, Nat.add_sub_cancel, List.take_length] at hj1
        subst hj1
        have hr0 : r.size = 0 := by rw [Lib.size_eq, hr1]; rfl
        have hre : r.toList.isEmpty = true := by rw [Lib.toList_data, hr1]; rfl
        have hnj2 : nj = s.size := by have := HR.out.len; simp [cellsU] at this; rw [Lib.size_eq]; simp; omega
        subst hnj2
        have kc := Lib.run_convert_whole (P := Try.prog) wr 25 5 9 Try.underlying25 Try.underlying5 Try.underlying9 gj 0 s (bytes_row HR.out) cj
        have HF := hid (text_fail w.heap.size r wr HD.out hr0)
        have c0 := HD.out.c0
        have HKK := hid hkk
        have hkn : ¬ ((k : Int) ≤ (s.size : Int)) := by omega
        clear hkk hr1 hp1 hr0 hk
        go_upto_region 25 with go_in
        go_wp2_with fail
        refine (door7 _ _ _ HF.out (fun e w' h => ⟨_, h.1⟩)).mono ?_
        rintro e w2 ⟨rfl, hdec2, hbut⟩
        have c2 := hdec2.c2
        have HB2 := hid (HB.out.grown hbut.1 HB.out.size (fun k' hk' => by have : w.heap.size = k' := by simpa using hk'
                                                                           omega))
        clear hdec2 hbut c0 kc
        go_wp2_with go_in
        go_ret
        exact ⟨rfl, HB2.out⟩
  · have hb1 : (1048576 : Int) < (s.size : Int) := by omega
    go_enter Try.func3, Try.ntmps3
    go_wp2_with go_in
    go_ret
    exact ⟨rfl, Below.refl _ _⟩
end Go.Proofs.Qxb6000929a

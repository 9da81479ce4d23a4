/-
  countPipes (12), FnDecoderTextResumesAfterSep (4).
-/
import Derived.Test.Qxb6000929aSplit
namespace Go.Proofs.Qxb6000929a
open Go.RowKit

def pipes (l : List UInt8) : Nat := l.count 124

theorem pipes_take (s : ByteArray) (k : Nat) (h : k < s.size) : pipes (s.data.toList.take (k + 1)) = pipes (s.data.toList.take k) + if s[k] = 124 then 1 else 0 := by
  have hx := Lib.data_getElem? s k h
  have hlt := (List.getElem?_eq_some_iff.1 hx).1
  unfold pipes
  rw [List.take_succ_eq_append_getElem hlt, (List.getElem?_eq_some_iff.1 hx).2, List.count_append]
  congr 1
  by_cases e : s[k] = 124
  · rw [e]; simp
  · rw [if_neg e, List.count_eq_zero]
    simp
    exact fun h => e h.symm

theorem pipes_le (l : List UInt8) : pipes l ≤ l.length := List.count_le_length

set_option maxHeartbeats 1000000 in
theorem count_any (s : ByteArray) (w : World) (hs : s.size ≤ 1048576) : Calls Try.prog 12 #[.string s] w fun e w' => e = .returned (.int .i64 (pipes s.data.toList : Int)) ∧ w' = w := by
  go_enter Try.func12, Try.ntmps12
  go_wp2
  go_loop [3, 4] (fun s3 s4 => ∃ k : Nat, k ≤ s.size ∧ s4 = .int .i64 k ∧ s3 = .int .i64 (pipes (s.data.toList.take k) : Int)) (fun _ s4 => s.size - (intOf s4).toNat)
  case atStart => exact ⟨0, Nat.zero_le _, rfl, by simp [pipes]⟩
  case round =>
    obtain ⟨k, hk, rfl, rfl⟩ := hrel
    have hp : pipes (s.data.toList.take k) ≤ k := by have := pipes_le (s.data.toList.take k); simp at this; omega
    by_cases hlt : k < s.size
    · have HP := hid (pipes_take s k hlt)
      by_cases hx : s[k] = 124
      · have hb : ((s[k].toNat : Int) == 124) = true := by rw [hx]; rfl
        have HX := hid hx
        clear hx
        generalize pipes (s.data.toList.take k) = pk at *
        go_wp2
        go_round
        case rel => exact ⟨k + 1, by omega, by go_num, by rw [HP.out, if_pos HX.out]; go_num⟩
        case measure => simp [intOf]; omega
      · have hb : ((s[k].toNat : Int) == 124) = false := by
          rw [beq_eq_false_iff_ne]
          intro e
          exact hx (UInt8.toNat_inj.1 (by have : (124 : UInt8).toNat = 124 := rfl; omega))
        have HX := hid hx
        clear hx
        generalize pipes (s.data.toList.take k) = pk at *
        go_wp2
        go_round
        case rel => exact ⟨k + 1, by omega, by go_num, by rw [HP.out, if_neg HX.out]; rfl⟩
        case measure => simp [intOf]; omega
    · have hkk : s.data.toList.take k = s.data.toList := List.take_of_length_le (by rw [← Lib.size_eq]; omega)
      rw [hkk]
      clear hkk
      go_wp2
      go_ret
      exact ⟨rfl, rfl⟩

theorem drop_head (l : List UInt8) : l.dropWhile (fun c => c != 124) = [] ∨ ∃ q, l.dropWhile (fun c => c != 124) = 124 :: q := by
  rcases byte_parts l 124 with ⟨_, _, _, h⟩ | ⟨_, q, _, _, _, h⟩
  · exact .inl h
  · exact .inr ⟨q, h⟩
theorem drop_pipes (l : List UInt8) : pipes (l.dropWhile (fun c => c != 124)) = pipes l := by
  induction l with
  | nil => rfl
  | cons b l ih =>
    rw [List.dropWhile_cons]
    by_cases hb : b = 124
    · subst hb; rfl
    · rw [if_pos (bne_iff_ne.2 hb), ih]
      unfold pipes
      rw [List.count_cons_of_ne hb]

/-- after k reads, at least one: what is left, and whether the last one failed -/
structure S4 (P k : Nat) (r : List UInt8) (bd : Bool) : Prop where
  k1 : 1 ≤ k
  ok : bd = false → k ≤ P + 1 ∧ pipes r + (k - 1) = P ∧ (r = [] ∨ ∃ q, r = 124 :: q)
  no : bd = true → k = P + 2

def mk (l : List UInt8) : ByteArray := ⟨l.toArray⟩
theorem mk_list (l : List UInt8) : (mk l).data.toList = l := by simp [mk]
theorem mk_size (l : List UInt8) : (mk l).size = l.length := by rw [Lib.size_eq, mk_list]

theorem at_of {a k B : Nat} (h : some a = some k) (hb : B ≤ a) : B ≤ k := by cases h; exact hb

def PostA (w : World) (g : Nat) (t r : ByteArray) (bd : Bool) (e : Ending) (w' : World) : Prop :=
  e = .returned (.string t) ∧ Dec w' g r true bd ∧ ButG w w' g

theorem postT_A {w : World} {g : Nat} {l : List UInt8} {e : Ending} {w' : World} (h : PostT w g l e w') : PostA w g (mk (l.takeWhile (fun c => c != 124))) (mk (l.dropWhile (fun c => c != 124))) false e w' := by
  obtain ⟨t, r2, h1, h2, h3, h4, h5⟩ := h
  have e1 : t = mk (l.takeWhile (fun c => c != 124)) := ba_eq (by rw [h2, mk_list])
  have e2 : r2 = mk (l.dropWhile (fun c => c != 124)) := ba_eq (by rw [h3, mk_list])
  rw [← e1, ← e2]
  exact ⟨h1, h4, h5⟩

theorem text_ok {g : Nat} {w : World} {l : List UInt8} (h : Calls Try.prog 13 #[.pointer (some ⟨g, 0, none⟩)] w (PostT w g l)) :
    Calls Try.prog 7 #[.pointer (some ⟨g, 0, none⟩)] w (PostA w g (mk (l.takeWhile (fun c => c != 124))) (mk (l.dropWhile (fun c => c != 124))) false) :=
  (door7 _ _ _ h (fun _ _ ⟨t, _, h, _⟩ => ⟨t, h⟩)).mono fun _ _ hw => postT_A hw

theorem text_bad {g : Nat} {w : World} {r : ByteArray} (h : Calls Try.prog 13 #[.pointer (some ⟨g, 0, none⟩)] w (PostF w g r)) :
    Calls Try.prog 7 #[.pointer (some ⟨g, 0, none⟩)] w (PostA w g ⟨#[]⟩ r true) :=
  door7 _ _ _ h (fun _ _ h => ⟨_, h.1⟩)

def St4 (s : ByteArray) (w wr : World) (k : Nat) : Prop :=
    ((k = 0 ∧ Dec wr w.heap.size s false false ∧ ∃ b : ByteArray, b.data.toList = 124 :: s.data.toList ∧ Dec wr (w.heap.size + 1) b true false) ∨
     ∃ (r : ByteArray) (bd : Bool), Dec wr w.heap.size r true bd ∧ Dec wr (w.heap.size + 1) r true bd ∧ S4 (pipes s.data.toList) k r.data.toList bd ∧ r.size ≤ s.size)

theorem step4 {s : ByteArray} {w wr : World} {k : Nat} (hs : s.size ≤ 1048576) (hst : St4 s w wr k) (hk : k < pipes s.data.toList + 2) :
    ∃ (t r : ByteArray) (bd : Bool), Calls Try.prog 7 #[.pointer (some ⟨w.heap.size, 0, none⟩)] wr (PostA wr w.heap.size t r bd) ∧
      (∀ W, ButG wr W w.heap.size → Calls Try.prog 7 #[.pointer (some ⟨w.heap.size + 1, 0, none⟩)] W (PostA W (w.heap.size + 1) t r bd)) ∧
      S4 (pipes s.data.toList) (k + 1) r.data.toList bd ∧ r.size ≤ s.size := by
  have hne : w.heap.size + 1 ≠ w.heap.size := by omega
  rcases hst with ⟨rfl, hd, b, hb, hdb⟩ | ⟨r, bd, hd1, hd2, hS, hr⟩
  · refine ⟨_, _, false, text_ok (text_first _ s wr hd (by omega)), fun W hW => text_ok (text_next _ b _ W (hdb.keptB hW hne) ?_ hb), ⟨by omega, fun _ => ⟨by omega, ?_, ?_⟩, (fun h => by cases h)⟩, ?_⟩
    · rw [Lib.size_eq, hb, List.length_cons, ← Lib.size_eq]; omega
    · rw [mk_list, drop_pipes]; omega
    · rw [mk_list]; exact drop_head _
    · rw [mk_size, Lib.size_eq]; exact (List.dropWhile_suffix _).length_le
  · cases bd with
    | true => have := hS.no rfl; omega
    | false =>
      obtain ⟨h1, h2, h3⟩ := hS.ok rfl
      have hk1 := hS.k1
      rcases h3 with h3 | ⟨q, h3⟩
      · have hr0 : r.size = 0 := by rw [Lib.size_eq, h3]; rfl
        refine ⟨_, r, true, text_bad (text_fail _ r wr hd1 hr0), fun W hW => text_bad (text_fail _ r W (hd2.keptB hW hne) hr0), ⟨by omega, (fun h => by cases h), fun _ => ?_⟩, hr⟩
        rw [h3] at h2
        have : pipes [] = 0 := rfl
        omega
      · refine ⟨_, _, false, text_ok (text_next _ r q wr hd1 (by omega) h3), fun W hW => text_ok (text_next _ r q W (hd2.keptB hW hne) (by omega) h3), ⟨by omega, fun _ => ?_, (fun h => by cases h)⟩, ?_⟩
        · have h4 : pipes (124 :: q) = pipes q + 1 := by unfold pipes; rw [List.count_cons_self]
          rw [h3, h4] at h2
          rw [mk_list, drop_pipes]
          exact ⟨by omega, by omega, drop_head _⟩
        · rw [mk_size]
          have h5 := (List.dropWhile_suffix (fun c : UInt8 => c != 124) (l := q)).length_le
          have h6 : r.size = q.length + 1 := by rw [Lib.size_eq, h3]; rfl
          omega

theorem end4 {s : ByteArray} {w wr : World} {k : Nat} (hst : St4 s w wr k) (hk : k = pipes s.data.toList + 2) : ∃ r, Dec wr w.heap.size r true true := by
  rcases hst with ⟨rfl, _⟩ | ⟨r, bd, hd1, _, hS, _⟩
  · omega
  · cases bd with
    | true => exact ⟨r, hd1⟩
    | false => have := (hS.ok rfl).1; omega

def Rel4 (s : ByteArray) (w : World) (gk : Nat) (s6 : Value) (wr : World) : Prop :=
  ∃ k : Nat, k + gk = pipes s.data.toList + 2 ∧ s6 = .int .i64 k ∧ Below w.heap.size w wr ∧
    St4 s w wr k

set_option maxRecDepth 100000 in
set_option maxHeartbeats 2000000 in
theorem law4 (s : ByteArray) (hs : s.size ≤ maxLen) (w : World) :
    Calls Try.prog 4 #[.string s] w fun e w' => e = .returned (.bool true) ∧ Below w.heap.size w w' := by
  unfold maxLen at hs
  by_cases hbig : s.size ≤ 1048576
  · have hb1 : ¬ ((1048576 : Int) < (s.size : Int)) := by omega
    have HC := hid (fun W => count_any s W hbig)
    have hpp : pipes s.data.toList ≤ 1048576 := by have := pipes_le s.data.toList; rw [← Lib.size_eq] at this; omega
    go_enter Try.func4, Try.ntmps4
    go_upto_region 8 with (first | (go_at_call 12; refine (HC.out _).mono ?_; rintro e w' ⟨rfl, hw⟩; rw [hw]) | go_in)
    have HD1 : Hid (Dec ((w.alloc (.cells #[.string s, .bool false, .bool false] 31)).alloc (.cells #[.string (⟨#[124]⟩ ++ s), .bool true, .bool false] 31)) w.heap.size s false false) := by
      show _ = _
      rw [heap_alloc_old _ _ (by simp)]
      exact heap_alloc_new w _
    have HD2 : Hid (Dec ((w.alloc (.cells #[.string s, .bool false, .bool false] 31)).alloc (.cells #[.string (⟨#[124]⟩ ++ s), .bool true, .bool false] 31)) (w.heap.size + 1) (⟨#[124]⟩ ++ s) true false) := by
      show _ = _
      have := heap_alloc_new (w.alloc (.cells #[.string s, .bool false, .bool false] 31)) (.cells #[.string (⟨#[124]⟩ ++ s), .bool true, .bool false] 31)
      simpa using this
    have HB0 : Hid (Below w.heap.size w ((w.alloc (.cells #[.string s, .bool false, .bool false] 31)).alloc (.cells #[.string (⟨#[124]⟩ ++ s), .bool true, .bool false] 31))) := ((Below.refl _ _).alloc (Nat.le_refl _) _).alloc (by simp) _
    have HCAT : Hid ((⟨#[124]⟩ ++ s : ByteArray).data.toList = 124 :: s.data.toList) := by
      show _ = _
      rw [ByteArray.data_append]
      simp
    generalize (⟨#[124]⟩ ++ s : ByteArray) = b at *
    generalize (w.alloc (.cells #[.string s, .bool false, .bool false] 31)).alloc (.cells #[.string b, .bool true, .bool false] 31) = w1 at *
    generalize hP : pipes s.data.toList = P at *
    have HP := hid hP
    clear hP HC
    go_wp2
    go_loopg [6] (P + 2) (fun gk s6 wr => Rel4 s w gk s6 wr)
    case atStart => exact ⟨0, by rw [HP.out]; omega, rfl, HB0.out, .inl ⟨rfl, HD1.out, b, HCAT.out, HD2.out⟩⟩
    case round =>
      obtain ⟨k, hkg, rfl, hbel, hst⟩ := hrel
      rw [HP.out] at hkg
      have HKG := hid hkg
      have HB := hid hbel
      have hsl : s.data.toList.length = s.size := (Lib.size_eq s).symm
      have HSL := hid hsl
      clear hkg hbel hsl HD1 HD2 HB0 HCAT
      by_cases hk : k < P + 2
      · obtain ⟨t, r, bd, hA, hBn, hS, hr⟩ := step4 hbig hst (by rw [HP.out]; exact hk)
        have HA := hid hA
        have HBN := hid hBn
        have HS := hid hS
        have HRS := hid hr
        clear hA hBn hS hr hst
        have hkp : (k : Int) < (P : Int) + 2 := by omega
        go_wp2_with fail
        refine HA.out.mono ?_
        rintro e w2 ⟨rfl, hd2, hbut2⟩
        have HD2 := hid hd2
        have HT2 := hid hbut2
        have HB2 := hid (HB.out.grown hbut2.1 HB.out.size (fun k' hk' => at_of hk' (by omega)))
        clear hd2 hbut2
        go_wp2_with fail
        refine (HBN.out _ HT2.out).mono ?_
        rintro e w3 ⟨rfl, hd3, hbut3⟩
        have hd2 := HD2.out.keptB hbut3 (by omega)
        have HB3 := hid (HB2.out.grown hbut3.1 HB2.out.size (fun k' hk' => at_of hk' (by omega)))
        have a0 := hd2.c0
        have a2 := hd2.c2
        have b0 := hd3.c0
        have b2 := hd3.c2
        have HF : Hid (Rel4 s w (gk - 1) (.int .i64 ((k : Int) + 1)) w3) := ⟨k + 1, by rw [HP.out]; have := HKG.out; omega, by go_num, HB3.out, .inr ⟨r, bd, hd2, hd3, HS.out, HRS.out⟩⟩
        clear hd2 hd3 hbut3 HD2 HT2 HA HBN HS HRS
        go_wp2_with go_in
        go_roundg (gk - 1)
        case measure => have := HKG.out; omega
        case rel => exact HF.out
      · obtain ⟨r, hd⟩ := end4 hst (by rw [HP.out]; have := HKG.out; omega)
        have a2 := hd.c2
        have hkp : ¬ (k : Int) < (P : Int) + 2 := by omega
        clear hd hst
        go_wp2_with go_in
        go_ret
        exact ⟨rfl, HB.out⟩
  · have hb1 : (1048576 : Int) < (s.size : Int) := by omega
    go_enter Try.func4, Try.ntmps4
    go_wp2_with go_in
    go_ret
    exact ⟨rfl, Below.refl _ _⟩
end Go.Proofs.Qxb6000929a

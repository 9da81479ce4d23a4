/-
  valueEnd (35), ZZValueEnd (25).
-/
import Derived.Test.Qxb6000759aStrEnd
namespace Go.Proofs.Qxb6000759a
open Go.RowKit

theorem cell_mid {w : World} {b : Nat} {D : List Int} (hm : Mem w b D) (pre l : List Int) (k : Nat) (hD : D = pre ++ l) (hk : k < l.length) : w.cell? ⟨b, pre.length + k, none⟩ = some (.int .u8 (l.getD k 0)) := by
  rw [hm (pre.length + k) (by rw [hD]; simp; omega), hD, getD_mid]

theorem plain_tests {x : Int} (h : Js.plain x = true) : (x == 34) = false ∧ (x == 44) = false ∧ (x == 91) = false ∧ (x == 93) = false ∧ (x == 123) = false ∧ (x == 125) = false ∧ (x == 32) = false ∧ (x == 9) = false ∧ (x == 10) = false ∧ (x == 13) = false := by
  simp only [Js.plain, Bool.not_eq_true', Bool.or_eq_false_iff] at h
  simp [h]

theorem snoc_eq (p l r : List Int) (x : Int) : p ++ (x :: l ++ r) = (p ++ [x]) ++ (l ++ r) := by simp

/-- a string -/
theorem valueEnd_str (b n cap : Nat) (pre body post : List Int) (D : List Int) (w : World) (hD : D = pre ++ 34 :: (body ++ 34 :: post)) (hn : D.length = n) (hin : Js.inside body 1 = true)
    (hmem : Mem w b D) (hbytes : ∀ x ∈ D, 0 ≤ x ∧ x < 256) (hcap : n ≤ cap) (hbig : n ≤ 1000000000000000000) (i : Int) (hi : i = pre.length) :
    Calls Try.prog 35 #[.slice (some ⟨b, 0, none⟩) n cap, .int .i64 i] w fun e w' => e = .returned (.int .i64 (pre.length + body.length + 2)) ∧ w' = w := by
  have HS : Hid (Calls Try.prog 44 #[.slice (some ⟨b, 0, none⟩) n cap, .int .i64 i] w fun e w' => e = .returned (.int .i64 (pre.length + body.length + 2)) ∧ w' = w) := stringEnd_any b n cap pre body post D w hD hn hin hmem hbytes hcap hbig i hi
  have hc := cell_mid hmem pre _ 0 hD (by simp)
  have hlt : pre.length < n := by rw [← hn, hD]; simp
  subst hi
  simp only [List.getD_cons_zero, Nat.add_zero] at hc
  clear hmem hD hn
  go_enter Try.func35, Try.ntmps35
  go_wp2_with (go_at_call 44; refine HS.out.mono ?_; rintro e w' ⟨rfl, rfl⟩)
  go_ret
  exact ⟨rfl, rfl⟩

set_option maxHeartbeats 1000000 in
/-- a number or a literal -/
theorem valueEnd_plain (b n cap : Nat) (pre v post : List Int) (D : List Int) (w : World) (hD : D = pre ++ (v ++ post)) (hn : D.length = n) (hv : ∀ y ∈ v, Js.plain y = true) (hv0 : v ≠ [])
    (hpost : post = [] ∨ ∃ y ys, post = y :: ys ∧ (y = 44 ∨ y = 93))
    (hmem : Mem w b D) (_hcap : n ≤ cap) (hbig : n ≤ 1000000000000000000) (i : Int) (hi : i = pre.length) :
    Calls Try.prog 35 #[.slice (some ⟨b, 0, none⟩) n cap, .int .i64 i] w fun e w' => e = .returned (.int .i64 (pre.length + v.length)) ∧ w' = w := by
  have hvl : 0 < v.length := List.length_pos_iff.2 hv0
  have HL : Hid (n = pre.length + v.length + post.length) := by show n = _; rw [← hn, hD]; simp; omega
  have hle : pre.length + v.length ≤ n := by have := HL.out; omega
  have HC : Hid (∀ k, k < v.length → ∃ x, w.cell? ⟨b, pre.length + k, none⟩ = some (.int .u8 x) ∧ Js.plain x = true) := fun k hk =>
    ⟨_, by rw [cell_mid hmem pre _ k hD (by simp; omega), getD_head _ _ _ hk], hv _ (by rw [List.getD_eq_getElem?_getD, List.getElem?_eq_getElem hk]; simp)⟩
  have HP : Hid (n = pre.length + v.length ∨ (pre.length + v.length < n ∧ ∃ y, w.cell? ⟨b, pre.length + v.length, none⟩ = some (.int .u8 y) ∧ (y = 44 ∨ y = 93))) := by
    rcases hpost with rfl | ⟨y, ys, rfl, hy⟩
    · exact .inl (by have := HL.out; simpa using this)
    · refine .inr ⟨by have := HL.out; simp at this; omega, y, ?_, hy⟩
      rw [cell_mid hmem (pre) _ v.length hD (by simp), show (v ++ y :: ys).getD v.length 0 = y from by simp]
  subst hi
  clear hmem hD hn hpost hv hv0
  obtain ⟨x0, hc0, hx0⟩ := HC.out 0 hvl
  obtain ⟨t1, t2, t3, t4, t5, t6, t7, t8, t9, t10⟩ := plain_tests hx0
  simp only [Nat.add_zero] at hc0
  go_enter Try.func35, Try.ntmps35
  go_wp2
  clear hc0 hx0 t1 t2 t3 t4 t5 t6 t7 t8 t9 t10
  go_loop [1] (fun s1 => ∃ k : Nat, k ≤ v.length ∧ s1 = .int .i64 ((pre.length : Int) + k)) (fun s1 => n - (intOf s1).toNat)
  case atStart => exact ⟨0, Nat.zero_le _, by simp⟩
  case round =>
    obtain ⟨k, hk, rfl⟩ := hrel
    by_cases hlt : k < v.length
    · obtain ⟨x, hc, hx⟩ := HC.out k hlt
      obtain ⟨t1, t2, t3, t4, t5, t6, t7, t8, t9, t10⟩ := plain_tests hx
      go_wp2
      go_round
      case rel => exact ⟨k + 1, by omega, by go_num⟩
      case measure => simp [intOf]; omega
    · have hkv : k = v.length := by omega
      subst hkv
      rcases HP.out with hend | ⟨hlt2, y, hc, hy⟩
      · have hge : ¬ ((pre.length : Int) + v.length < n) := by omega
        clear hend
        go_wp2
        go_ret
        exact ⟨rfl, rfl⟩
      · rcases hy with rfl | rfl
        · go_wp2
          go_ret
          exact ⟨rfl, rfl⟩
        · go_wp2
          go_ret
          exact ⟨rfl, rfl⟩

theorem scan_head {x : Int} {l : List Int} {d : Nat} (h : Js.scan (x :: l) d 0 = some (1, 0)) :
    (x = 34 ∧ Js.scan l d 1 = some (1, 0)) ∨ ((x = 123 ∨ x = 91) ∧ Js.scan l (d + 1) 0 = some (1, 0)) ∨ ((x = 125 ∨ x = 93) ∧ 2 ≤ d ∧ Js.scan l (d - 1) 0 = some (1, 0)) ∨
    (((x == 34) = false ∧ (x == 123) = false ∧ (x == 91) = false ∧ (x == 125) = false ∧ (x == 93) = false) ∧ Js.scan l d 0 = some (1, 0)) := by
  simp only [Js.scan, if_true] at h
  by_cases h1 : x = 34
  · rw [if_pos h1] at h; exact .inl ⟨h1, h⟩
  · rw [if_neg h1] at h
    by_cases h2 : x = 123 ∨ x = 91
    · rw [if_pos h2] at h; exact .inr (.inl ⟨h2, h⟩)
    · rw [if_neg h2] at h
      by_cases h3 : x = 125 ∨ x = 93
      · rw [if_pos h3] at h
        by_cases h4 : d ≤ 1
        · rw [if_pos h4] at h; cases h
        · rw [if_neg h4] at h; exact .inr (.inr (.inl ⟨h3, by omega, h⟩))
      · rw [if_neg h3] at h
        refine .inr (.inr (.inr ⟨?_, h⟩))
        simp only [beq_eq_false_iff_ne, ne_eq]
        omega

set_option maxHeartbeats 2000000 in
/-- an array or an object -/
theorem valueEnd_box (b n cap : Nat) (pre u post : List Int) (o c : Int) (D : List Int) (w : World) (hD : D = pre ++ (o :: u ++ c :: post)) (hn : D.length = n) (ho : o = 123 ∨ o = 91) (hc : c = 125 ∨ c = 93)
    (hs : Js.scan (o :: u) 0 0 = some (1, 0)) (hmem : Mem w b D) (hbytes : ∀ x ∈ D, 0 ≤ x ∧ x < 256) (hcap : n ≤ cap) (hbig : n ≤ 1000000000000000000) (i : Int) (hi : i = pre.length) :
    Calls Try.prog 35 #[.slice (some ⟨b, 0, none⟩) n cap, .int .i64 i] w fun e w' => e = .returned (.int .i64 (pre.length + u.length + 2)) ∧ w' = w := by
  subst hi
  have HM : Hid (Mem w b D) := hmem
  have HB : Hid (∀ x ∈ D, 0 ≤ x ∧ x < 256) := hbytes
  have HD : Hid (D = pre ++ (o :: u ++ c :: post)) := hD
  have HN : Hid (D.length = n) := hn
  have HL : Hid (n = pre.length + u.length + 2 + post.length) := by show n = _; rw [← hn, hD]; simp; omega
  have hle : pre.length + u.length + 2 ≤ n := by have := HL.out; omega
  have hc0 := cell_mid hmem pre _ 0 hD (by simp)
  simp only [List.cons_append, List.getD_cons_zero, Nat.add_zero] at hc0
  have HS : Hid (Js.scan (o :: u) 0 0 = some (1, 0)) := hs
  have hcc : (c == 34) = false ∧ (c == 123) = false ∧ (c == 91) = false := by simp only [beq_eq_false_iff_ne, ne_eq]; omega
  obtain ⟨hc34, hc123, hc91⟩ := hcc
  clear hmem hD hn hbytes hs
  rcases ho with rfl | rfl
  all_goals
    go_enter Try.func35, Try.ntmps35
    go_wp2
    clear hc0
    go_loop [1, 5] (fun s1 s5 => ∃ (p l : List Int) (d : Nat), D = p ++ (l ++ c :: post) ∧ Js.scan l d 0 = some (1, 0) ∧ d ≤ p.length ∧ s1 = .int .i64 p.length ∧ s5 = .int .i64 d) (fun s1 _ => n - (intOf s1).toNat)
    case atStart => exact ⟨pre, _, 0, HD.out, HS.out, Nat.zero_le _, rfl, rfl⟩
    case round =>
      obtain ⟨p, l, d, hpl, hscan, hdp, rfl, rfl⟩ := hrel
      have HPL : Hid (D = p ++ (l ++ c :: post)) := hpl
      have HPN : Hid (n = p.length + l.length + 1 + post.length) := by show n = _; rw [← HN.out, hpl]; simp; omega
      have hpn : p.length < n := by have := HPN.out; omega
      cases l with
      | nil =>
        have hcc := cell_mid HM.out p _ 0 hpl (by simp)
        simp only [List.nil_append, List.getD_cons_zero, Nat.add_zero] at hcc
        simp only [Js.scan, Option.some.injEq, Prod.mk.injEq, and_true] at hscan
        subst hscan
        clear hpl
        have hfin : (p.length : Int) + 1 = pre.length + u.length + 2 := by have := HPN.out; have := HL.out; simp at *; omega
        have HF : Hid ((p.length : Int) + 1 = pre.length + u.length + 2) := hfin
        clear hfin
        rcases hc with rfl | rfl
        all_goals
          go_wp2
          go_ret
          exact ⟨by simp [HF.out], rfl⟩
      | cons x l =>
        have hcx := cell_mid HM.out p _ 0 hpl (by simp)
        simp only [List.cons_append, List.getD_cons_zero, Nat.add_zero] at hcx
        clear hpl
        rcases scan_head hscan with ⟨rfl, hsc⟩ | ⟨hx, hsc⟩ | ⟨hx, hd2, hsc⟩ | ⟨⟨x1, x2, x3, x4, x5⟩, hsc⟩
        · obtain ⟨body, rest, hbr, hin, hrest⟩ := Js.scan_str _ _ _ _ (.inl rfl) hsc
          have HBR : Hid (l = body ++ 34 :: rest) := hbr
          have HSE := stringEnd_any b n cap p body (rest ++ c :: post) D w (by rw [HPL.out, hbr]; simp) HN.out hin HM.out HB.out hcap hbig p.length rfl
          have HSE' : Hid (Calls Try.prog 44 #[.slice (some ⟨b, 0, none⟩) n cap, .int .i64 (p.length : Int)] w fun e w' => e = .returned (.int .i64 (p.length + body.length + 2)) ∧ w' = w) := HSE
          have hb2 : p.length + body.length + 2 ≤ n := by have := HPN.out; rw [hbr] at this; simp at this; omega
          clear HSE hbr hsc hscan
          go_wp2_with (go_at_call 44; refine HSE'.out.mono ?_; rintro e w' ⟨rfl, rfl⟩)
          go_round
          case rel => exact ⟨p ++ 34 :: (body ++ [34]), rest, d, by rw [HPL.out, HBR.out]; simp, hrest, by simp; omega, by simp; omega, rfl⟩
          case measure => simp [intOf]; omega
        · clear hscan
          rcases hx with rfl | rfl
          all_goals
            go_wp2
            go_round
            case rel => exact ⟨p ++ [_], l, d + 1, HPL.out.trans (snoc_eq _ _ _ _), hsc, by simp; omega, by simp, by go_num⟩
            case measure => simp [intOf]; omega
        · clear hscan
          have hd3 : (((d : Int) - 1) == 0) = false := by rw [beq_eq_false_iff_ne]; omega
          rcases hx with rfl | rfl
          all_goals
            go_wp2
            go_round
            case rel => exact ⟨p ++ [_], l, d - 1, HPL.out.trans (snoc_eq _ _ _ _), hsc, by simp; omega, by simp, by go_num⟩
            case measure => simp [intOf]; omega
        · clear hscan
          go_wp2
          go_round
          case rel => exact ⟨p ++ [x], l, d, by rw [HPL.out]; simp, hsc, by simp; omega, by simp, rfl⟩
          case measure => simp [intOf]; omega

/-- whatever value -/
theorem valueEnd_any (b n cap : Nat) (pre v post : List Int) (D : List Int) (w : World) (hD : D = pre ++ (v ++ post)) (hn : D.length = n) (hv : Js.IsVal v)
    (hpost : post = [] ∨ ∃ y ys, post = y :: ys ∧ (y = 44 ∨ y = 93))
    (hmem : Mem w b D) (hbytes : ∀ x ∈ D, 0 ≤ x ∧ x < 256) (hcap : n ≤ cap) (hbig : n ≤ 1000000000000000000) (i : Int) (hi : i = pre.length) :
    Calls Try.prog 35 #[.slice (some ⟨b, 0, none⟩) n cap, .int .i64 i] w fun e w' => e = .returned (.int .i64 (pre.length + v.length)) ∧ w' = w := by
  rcases hv with ⟨body, rfl, hb⟩ | ⟨x, l, rfl, hp⟩ | ⟨o, u, c, rfl, ho, hc, hs⟩
  · have := valueEnd_str b n cap pre body post D w (by rw [hD]; simp) hn hb hmem hbytes hcap hbig i hi
    refine this.mono fun e w' ⟨he, hw⟩ => ⟨by rw [he]; simp; omega, hw⟩
  · exact valueEnd_plain b n cap pre (x :: l) post D w hD hn hp (by simp) hpost hmem hcap hbig i hi
  · have := valueEnd_box b n cap pre u post o c D w (by rw [hD]; simp) hn ho hc hs hmem hbytes hcap hbig i hi
    refine this.mono fun e w' ⟨he, hw⟩ => ⟨by rw [he]; simp; omega, hw⟩

theorem zzValueEnd_any (b n cap : Nat) (pre v post : List Int) (D : List Int) (w : World) (hD : D = pre ++ (v ++ post)) (hn : D.length = n) (hv : Js.IsVal v)
    (hpost : post = [] ∨ ∃ y ys, post = y :: ys ∧ (y = 44 ∨ y = 93))
    (hmem : Mem w b D) (hbytes : ∀ x ∈ D, 0 ≤ x ∧ x < 256) (hcap : n ≤ cap) (hbig : n ≤ 1000000000000000000) (i : Int) (hi : i = pre.length) :
    Calls Try.prog 25 #[.slice (some ⟨b, 0, none⟩) n cap, .int .i64 i] w fun e w' => e = .returned (.int .i64 (pre.length + v.length)) ∧ w' = w := by
  have H : Hid (Calls Try.prog 35 #[.slice (some ⟨b, 0, none⟩) n cap, .int .i64 i] w fun e w' => e = .returned (.int .i64 (pre.length + v.length)) ∧ w' = w) := valueEnd_any b n cap pre v post D w hD hn hv hpost hmem hbytes hcap hbig i hi
  clear hD hn hv hpost hmem hbytes hi
  go_enter Try.func25, Try.ntmps25
  go_wp2_with (go_at_call 35; refine H.out.mono ?_; rintro e w' ⟨rfl, rfl⟩)
  go_ret
  exact ⟨rfl, rfl⟩
end Go.Proofs.Qxb6000759a

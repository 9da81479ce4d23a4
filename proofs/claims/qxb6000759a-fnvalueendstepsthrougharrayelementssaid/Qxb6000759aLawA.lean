/-
  FnValueEndStepsThroughArrayElements (10): the law's own walk, out of its callees' contracts.
-/
import Derived.Test.Qxb6000759aEnc
import Derived.Test.Qxb6000759aClone
import Derived.Test.Qxb6000759aValEnd
namespace Go.Proofs.Qxb6000759a
open Go.RowKit

theorem BytesAt.later {B B' : Nat} {w w' : World} {ao : Option Addr} {len : Nat} (h : BytesAt B w ao len) (hb : Below B w w') (hB : B ≤ B') : BytesAt B' w' ao len := fun i hi => by
  obtain ⟨b, o, z, h1, h2, h3, h4⟩ := h i hi
  exact ⟨b, o, z, h1, by omega, by rw [hb.cell (p := ⟨b, o + i, none⟩) h2]; exact h3, h4⟩
theorem StrsAt.later {B B' : Nat} {w w' : World} {ao : Option Addr} {len : Nat} (h : StrsAt B w ao len) (hb : Below B w w') (hB : B ≤ B') : StrsAt B' w' ao len := fun i hi => by
  obtain ⟨b, o, z, h1, h2, h3, h4⟩ := h i hi
  exact ⟨b, o, z, h1, by omega, by rw [hb.cell (p := ⟨b, o + i, none⟩) h2]; exact h3, h4⟩

set_option maxHeartbeats 1000000 in
/-- append(data, v...), v a slice whose bytes lie in a block of their own -/
theorem app_src {w : World} {ops : Array Oper} {rest : List Oper} {o : Oper} {a : Act} {Q : Exit → Act → World → Prop} (hgd : o.guard = none) (s x : Operand)
    (ho : o.op = .call { callee := .builtin .append, args := #[s, x], argTypes := #[24, 24] })
    {B g n c : Nat} {xs : List Value} (hrow : Row 5 B w g n c xs) (hs : a.eval s = .slice (some ⟨g, 0, none⟩) n c)
    {g0 m d : Nat} {v : List Int} (hx : a.eval x = .slice (some ⟨g0, 0, none⟩) m d) (hm : v.length = m) (hm0 : 0 < m) (hv : Mem w g0 v) (hfit : n + m ≤ 100000000000000)
    (h : ∀ g' c' w', Row 5 B w' g' (n + m) c' (xs ++ v.map (Value.int .u8)) → GrewB w w' g g' → wpList Try.prog ops Q rest (a.put o.dst (.slice (some ⟨g', 0, none⟩) (n + m) c')) w') :
    wpList Try.prog ops Q (o :: rest) a w := by
  obtain ⟨i0, hi, hz0, hz1, hz2⟩ := info_parts Try.info5
  have hr := hrow.lt
  refine wpList_append_lies w hgd s x 24 ho B 5 i0 (.int .u8 0) 1 1 Try.underlying24 hi hz0 hz1 hz2 rfl (by omega) _ n xs hs hrow.1 ⟨g0, 0, none⟩ m d (v.map (Value.int .u8)) hx (by simp [hm])
    (fun j u hj => ?_) (ints_oneCell _ _) hm0 (by unfold maxLen; omega) (by omega) hrow.2 w.heap.size rfl ?_
  · have hlt : j < v.length := by
      have := (List.getElem?_eq_some_iff.1 hj).1
      simpa using this
    have hadd : (⟨g0, 0, none⟩ : Addr).add j = ⟨g0, j, none⟩ := by unfold Addr.add; split <;> simp_all
    rw [hadd, hv j hlt]
    rw [List.getElem?_map, List.getElem?_eq_getElem hlt] at hj
    simp at hj
    rw [← hj]
    simp [List.getElem?_eq_getElem hlt]
  · intro g' cap w' hown hgrow hat hlt
    have hgb : GrewB w w' g g' := ⟨hgrow, by
      rcases hat with e1 | e1
      · left; simpa [Value.ownBlock] using e1.symm
      · right; omega⟩
    exact h g' cap w' ⟨hown, by have := hgb.grown.size; have := hrow.2; omega⟩ hgb

theorem row_made8 {w w' : World} {n : Nat} {xs : List Value} (h : w'.ownsRow w.heap.size 5 1 (.slice (some ⟨w.heap.size, 0, none⟩) 0 n) 0 xs) (hg : w.grownBy w' none) : Row 5 w.heap.size w' w.heap.size 0 n xs :=
  ⟨h, hg.size⟩

theorem arr_range {a b : List Int} (ha : ∀ x ∈ a, 0 ≤ x ∧ x < 256) (hb : ∀ x ∈ b, 0 ≤ x ∧ x < 256) : ∀ x ∈ (91 :: (a ++ 44 :: (b ++ [93])) : List Int), 0 ≤ x ∧ x < 256 := by
  intro x hx
  simp only [List.mem_cons, List.mem_append, List.mem_nil_iff, or_false] at hx
  rcases hx with rfl | hx | rfl | hx | rfl
  · omega
  · exact ha x hx
  · omega
  · exact hb x hx
  · omega

theorem Mem.later {B : Nat} {w w' : World} {g : Nat} {v : List Int} (h : Mem w g v) (hb : Below B w w') (hg : g < B) : Mem w' g v := fun k hk => by
  rw [hb.cell (p := ⟨g, k, none⟩) hg]; exact h k hk

theorem mem_row {B : Nat} {w : World} {g n c : Nat} {D : List Int} (h : Row 5 B w g n c (D.map (Value.int .u8))) : Mem w g D := fun k hk => by
  have hl : D.length = n := by have := h.len; simpa using this
  rw [h.cell k (by omega)]
  simp [List.getElem?_eq_getElem hk]

set_option maxRecDepth 100000 in
set_option maxHeartbeats 4000000 in
theorem law_walk (aa ab so : Option Addr) (la ca lb cb ls cs : Nat) (w : World) (ha : BytesAt w.heap.size w aa la) (hb : BytesAt w.heap.size w ab lb) (hs : StrsIn w so ls)
    (na : aa = none → la = 0) (nb : ab = none → lb = 0) (ns : so = none → ls = 0) (hla : la ≤ maxLen) (hlb : lb ≤ maxLen) (hls : ls ≤ maxLen) :
    Calls Try.prog 10 #[.slice aa la ca, .slice ab lb cb, .slice so ls cs] w fun e w' => e = .returned (.bool true) ∧ Below w.heap.size w w' := by
  have HZ := hid (zz_any aa ab so la ca lb cb ls cs w hs hla hlb hls)
  have HA := hid ha
  have HB := hid hb
  have NA := hid na
  have NB := hid nb
  have NS := hid ns
  unfold maxLen at hla hlb hls
  clear ha hb hs na nb ns
  go_enter Try.func10, Try.ntmps10
  go_wp2_with fail
  refine HZ.out.mono ?_
  rintro e w1 ⟨⟨b, rfl, hb1⟩, hw1⟩
  subst hw1
  clear HZ
  cases b with
  | false =>
    go_wp2
    go_ret
    exact ⟨rfl, Below.refl _ _⟩
  | true =>
    obtain ⟨l1, l2, l3, hst⟩ := hb1 rfl
    have HS := hid hst
    clear hb1 hst
    by_cases hsum : (1048576 : Int) < (la : Int) + (lb : Int)
    · go_wp2
      go_ret
      exact ⟨rfl, Below.refl _ _⟩
    · go_wp2_with fail
      refine (fit_any _ so ls cs _ (strsIn_of HS.out) (by omega) (by omega) l3).mono ?_
      rintro e w2 ⟨⟨b, rfl⟩, hw2⟩
      subst hw2
      cases b with
      | false =>
        go_wp2
        go_ret
        exact ⟨rfl, Below.refl _ _⟩
      | true =>
        go_wp2_with fail
        refine (cloneBytes_any aa la ca _ HA.out NA.out l1).mono ?_
        rintro e w3 ⟨aa', ca', rfl, hA3, hbel3⟩
        have HA3 := hid hA3
        have BL3 := hid hbel3
        have HB3 := hid (HB.out.later hbel3 hbel3.size)
        have HS3 := hid (HS.out.later hbel3 hbel3.size)
        clear hA3 hbel3 HA HB HS
        go_wp2_with fail
        refine (cloneBytes_any ab lb cb _ HB3.out NB.out l2).mono ?_
        rintro e w4 ⟨ab', cb', rfl, hB4, hbel4⟩
        have HB4 := hid hB4
        have BL4 := hid (BL3.out.trans (hbel4.mono BL3.out.size))
        have HA4 := hid (HA3.out.later hbel4 hbel4.size)
        have HS4 := hid (HS3.out.later hbel4 hbel4.size)
        clear hB4 hbel4 HA3 HB3 HS3 BL3
        go_wp2_with fail
        refine (cloneStrings_any so ls cs _ HS4.out NS.out l3).mono ?_
        rintro e w5 ⟨so', cs', rfl, hS5, hbel5⟩
        have HS5 := hid hS5
        have BL5 := hid (BL4.out.trans (hbel5.mono BL4.out.size))
        have HA5 := hid (HA4.out.later hbel5 hbel5.size)
        have HB5 := hid (HB4.out.later hbel5 hbel5.size)
        clear hS5 hbel5 HA4 HB4 HS4 BL4
        go_wp2_with fail
        refine (encode_any aa' so' la ca' ls cs' _ HA5.out HS5.out l1 l3).mono ?_
        rintro e w6 ⟨g1, n1, c1, v1, rfl, hn1, hm1, hg1, hg1', hc1, hb1, hv1, hr1, hbel6⟩
        have HV1 := hid (show v1.length = n1 ∧ Js.IsVal v1 ∧ (∀ x ∈ v1, 0 ≤ x ∧ x < 256) from ⟨hn1, hv1, hr1⟩)
        have HM1 : Hid (Mem w6 g1 v1) := hm1
        have BL6 := hid (BL5.out.trans (hbel6.mono BL5.out.size))
        have HB6 := hid (HB5.out.later hbel6 hbel6.size)
        have HS6 := hid (HS5.out.later hbel6 hbel6.size)
        clear hn1 hm1 hg1 hv1 hr1 hbel6 HA5 HB5 HS5 BL5
        go_wp2_with fail
        refine (encode_any ab' so' lb cb' ls cs' _ HB6.out HS6.out l2 l3).mono ?_
        rintro e w7 ⟨g2, n2, c2, v2, rfl, hn2, hm2, hg2, hg2', hc2, hb2, hv2, hr2, hbel7⟩
        have HV2 := hid (show v2.length = n2 ∧ Js.IsVal v2 ∧ (∀ x ∈ v2, 0 ≤ x ∧ x < 256) from ⟨hn2, hv2, hr2⟩)
        have HM2 : Hid (Mem w7 g2 v2) := hm2
        have HM1' := hid (HM1.out.later hbel7 hg1')
        have hg17 : g1 < w7.heap.size := by have := hbel7.size; omega
        have BL7 := hid (BL6.out.trans (hbel7.mono BL6.out.size))
        clear hn2 hm2 hg2 hv2 hr2 hbel7 HB6 HS6 BL6 HM1 hg1'
        have hp1 : 0 < n1 := by
          have h1 := HV1.out.2.1.ne_nil
          have h2 := HV1.out.1
          have := List.length_pos_iff.2 h1
          omega
        have hp2 : 0 < n2 := by
          have h1 := HV2.out.2.1.ne_nil
          have h2 := HV2.out.1
          have := List.length_pos_iff.2 h1
          omega
        obtain ⟨i0, hi, hz0, hz1, hz2⟩ := info_parts Try.info5
        go_upto_region 13 with (at_make; refine wpList_make_own _ (by rfl) _ _ 24 (by rfl) w7.heap.size 5 i0 (.int .u8 0) 1 Try.underlying24 hi hz0 hz1 .i64 .i64 _ (n1 + n2 + 3) (by rfl) (by rfl) (by omega) (by rw [hz2]; omega) (by unfold maxLen; omega) (Nat.le_refl _) ?_; intro w8 hown8 hgr8)
        have HR8 := hid (row_made8 hown8 hgr8)
        have B8 := hid ((Below.refl w7.heap.size w7).grown hgr8 (Nat.le_refl _) (fun k hk => by cases hk))
        clear hown8 hgr8 hi hz0 hz1 hz2 i0
        go_upto_region 14 with (at_builtin; refine app_new Try.underlying24 Try.info5 rfl (by rfl) _ _ (by rfl) HR8.out (by rfl) (by rfl) (by rfl) (by omega) (by rfl) (by omega) ?_; intro d9 e9 w9 hr9 hg9)
        simp only [Nat.zero_add, List.nil_append] at hr9
        have HR9 := hid hr9
        have B9 := hid (B8.out.trans (hg9.below HR8.out.lt.1 HR8.out.2))
        have HM19 := hid (HM1'.out.later B9.out hg17)
        clear hr9 hg9 HR8 B8
        go_upto_region 15 with (at_builtin; refine app_src (by rfl) _ _ (by rfl) HR9.out (by rfl) (by rfl) HV1.out.1 hp1 HM19.out (by omega) ?_; intro d10 e10 w10 hr10 hg10)
        have HR10 := hid hr10
        have B10 := hid (B9.out.trans (hg10.below HR9.out.lt.1 HR9.out.2))
        clear hr10 hg10 HR9 B9 HM19
        go_upto_region 16 with (at_builtin; refine app_new Try.underlying24 Try.info5 rfl (by rfl) _ _ (by rfl) HR10.out (by rfl) (by rfl) (by rfl) (by omega) (by rfl) (by omega) ?_; intro d11 e11 w11 hr11 hg11)
        have HR11 := hid hr11
        have B11 := hid (B10.out.trans (hg11.below HR10.out.lt.1 HR10.out.2))
        have HM211 := hid (HM2.out.later B11.out hg2')
        clear hr11 hg11 HR10 B10
        go_upto_region 17 with (at_builtin; refine app_src (by rfl) _ _ (by rfl) HR11.out (by rfl) (by rfl) HV2.out.1 hp2 HM211.out (by omega) ?_; intro d12 e12 w12 hr12 hg12)
        have HR12 := hid hr12
        have B12 := hid (B11.out.trans (hg12.below HR11.out.lt.1 HR11.out.2))
        clear hr12 hg12 HR11 B11 HM211
        go_upto_region 18 with (at_builtin; refine app_new Try.underlying24 Try.info5 rfl (by rfl) _ _ (by rfl) HR12.out (by rfl) (by rfl) (by rfl) (by omega) (by rfl) (by omega) ?_; intro d13 e13 w13 hr13 hg13)
        have B13 := hid (B12.out.trans (hg13.below HR12.out.lt.1 HR12.out.2))
        have hcap13 := hr13.cap.1
        generalize hN : 1 + n1 + 1 + n2 + 1 = N at hr13 hcap13 ⊢
        have HN := hid hN
        have hN1 : n1 + n2 + 3 ≤ N := by omega
        have hN2 : N ≤ n1 + n2 + 3 := by omega
        clear hN
        obtain ⟨D, hD⟩ : ∃ D : List Int, D = 91 :: (v1 ++ 44 :: (v2 ++ [93])) := ⟨_, rfl⟩
        have hR : Row 5 w7.heap.size w13 d13 N e13 (D.map (Value.int .u8)) := by rw [hD]; simpa using hr13
        have HM := hid (mem_row hR)
        have hDN : D.length = N := by have := hR.len; simpa using this
        have hrg : ∀ x ∈ D, 0 ≤ x ∧ x < 256 := by rw [hD]; exact arr_range HV1.out.2.2 HV2.out.2.2
        have L1 := hid HV1.out.1
        have L2 := hid HV2.out.1
        obtain ⟨E1, hE1⟩ : ∃ E : Nat, E = n1 + 1 := ⟨_, rfl⟩
        obtain ⟨E2, hE2⟩ : ∃ E : Nat, E = n1 + n2 + 2 := ⟨_, rfl⟩
        have C1 : Hid (Calls Try.prog 25 #[.slice (some ⟨d13, 0, none⟩) N e13, .int .i64 1] w13 fun e w' => e = .returned (.int .i64 (E1 : Int)) ∧ w' = w13) :=
          (zzValueEnd_any d13 N e13 [91] v1 (44 :: (v2 ++ [93])) D w13 (by rw [hD]; rfl) hDN HV1.out.2.1 (.inr ⟨44, _, rfl, .inl rfl⟩) HM.out hrg hcap13 (by omega) 1 rfl).mono
            fun e w' ⟨he, hw⟩ => ⟨by rw [he, L1.out, hE1]; simp; omega, hw⟩
        have C2 : Hid (Calls Try.prog 25 #[.slice (some ⟨d13, 0, none⟩) N e13, .int .i64 ((E1 : Int) + 1)] w13 fun e w' => e = .returned (.int .i64 (E2 : Int)) ∧ w' = w13) :=
          (zzValueEnd_any d13 N e13 (91 :: (v1 ++ [44])) v2 [93] D w13 (by rw [hD]; simp) hDN HV2.out.2.1 (.inr ⟨93, _, rfl, .inr rfl⟩) HM.out hrg hcap13 (by omega) ((E1 : Int) + 1) (by have := L1.out; simp; omega)).mono
            fun e w' ⟨he, hw⟩ => ⟨by rw [he, L2.out, hE2]; have := L1.out; simp; omega, hw⟩
        have C3 : Hid (Calls Try.prog 25 #[.slice (some ⟨d13, 0, none⟩) N e13, .int .i64 0] w13 fun e w' => e = .returned (.int .i64 (N : Int)) ∧ w' = w13) :=
          (zzValueEnd_any d13 N e13 [] D [] D w13 (by simp) hDN (by rw [hD]; exact Js.array_val _ _ HV1.out.2.1 HV2.out.2.1) (.inl rfl) HM.out hrg hcap13 (by omega) 0 rfl).mono
            fun e w' ⟨he, hw⟩ => ⟨by rw [he, hDN]; simp, hw⟩
        have hcomma : w13.cell? ⟨d13, E1, none⟩ = some (.int .u8 44) := by
          have := cell_mid HM.out (91 :: v1) (44 :: (v2 ++ [93])) 0 (by rw [hD]; simp) (by simp)
          have hl := L1.out
          rw [hE1]
          simpa [hl] using this
        have hbrack : w13.cell? ⟨d13, E2, none⟩ = some (.int .u8 93) := by
          have := cell_mid HM.out (91 :: (v1 ++ 44 :: v2)) [93] 0 (by rw [hD]; simp) (by simp)
          have hl := L1.out
          have hl2 := L2.out
          have e : (91 :: (v1 ++ 44 :: v2)).length + 0 = E2 := by simp; omega
          rw [e] at this
          simpa using this
        have BF := hid (BL7.out.trans (B13.out.mono BL7.out.size))
        have t1 : ((E1 : Int) != 1 + (n1 : Int)) = false := by rw [bne_eq_false_iff_eq]; omega
        have t2 : ((E2 : Int) != (E1 : Int) + 1 + (n2 : Int)) = false := by rw [bne_eq_false_iff_eq]; omega
        have q1 : E1 < N := by omega
        have q2 : E2 < N := by omega
        clear hD hR hDN hrg hr13 hg13 HR12 B12 B13 BL7 HM HM1' HM2 HV1 HV2 hE1 hE2
        go_wp2_with fail
        refine C1.out.mono ?_
        rintro e w14 ⟨rfl, hw14⟩
        have hw14' := hw14.symm
        subst hw14'
        go_wp2_with fail
        refine C2.out.mono ?_
        rintro e w14 ⟨rfl, hw14⟩
        have hw14' := hw14.symm
        subst hw14'
        go_wp2_with fail
        refine C3.out.mono ?_
        rintro e w14 ⟨rfl, hw14⟩
        have hw14' := hw14.symm
        subst hw14'
        go_wp2
        go_ret
        exact ⟨by simp, BF.out⟩
end Go.Proofs.Qxb6000759a

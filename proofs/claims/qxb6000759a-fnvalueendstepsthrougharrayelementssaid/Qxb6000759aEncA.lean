/-
  Parts of encodeValue's (23) round: a statement each, over the frame written out (the frames were written by a program of ours).
-/
import Derived.Test.Qxb6000759aEncHead
namespace Go.Proofs.Qxb6000759a
open Go.RowKit

set_option maxRecDepth 100000 in
set_option maxHeartbeats 4000000 in
theorem enc_if45 (c0 c1 c2 c3 c4 c10 c11 c12 c14 c15 c16 c17 c18 c19 c20 c21 c22 c23 c24 c25 c26 c27 c28 c29 c30 c31 c32 c33 c34 c35 c36 c37 c38 c39 c40 c41 c42 c43 c44 c46 c47 c48 c49 c50 c51 c52 c53 c54 c55 c56 c57 c58 c59 c60 c61 c62 c63 c64 c65 c66 c67 c68 c69 c70 c71 c72 c73 c74 c75 c76 c77 c78 c79 c80 c81 c82 c83 c84 c85 c86 c87 c88 c89 c90 c91 c92 c93 c94 c95 c96 c97 c98 c99 c100 c101 c102 c103 c104 c105 c106 c107 c108 c109 c110 c111 c112 c113 c114 c115 c116 c117 c118 c119 c120 c121 c122 c123 c124 c125 c126 c127 c128 c129 c130 c131 c132 c133 c134 c135 c136 c137 c138 c139 c140 c141 c142 c143 c144 c145 c146 c147 c148 c149 c150 c151 c152 c153 c154 c155 c156 c157 c158 c159 c160 c161 c162 c163 c164 c165 c166 c167 c168 c169 c170 c171 c172 c173 c174 c175 c176 c177 c178 c179 c180 c181 c182 c183 c184 c185 c186 c187 c188 c189 c190 c191 c192 c193 c194 c195 c196 : Value) (B : Nat) (w wr : World) (len slen g' j go no co gs ns cs gf cf nx : Nat) (out st : List Int) (fl : List Bool) (wd : Bool) (Q : Exit → Act → World → Prop) (HJ : Hid (j + (g' + 1) = len)) (hnx : nx ≤ slen) (HI : Hid (Inv B w wr go no co gs ns cs gf cf out st fl)) (HG : Hid (Good out st false)) (hno : no ≤ j * 20000000) (hns : ns ≤ j) (hlen : len ≤ 1048576)
    (hQ : ∀ (u15 u16 u17 u18 u23 u24 u25 u26 u27 u28 u29 u30 u31 u32 u33 u34 u35 u36 u37 u38 u39 u40 u41 u42 u43 u44 u45 u46 u47 u48 u49 u50 u51 u52 u53 u54 u55 u56 u57 u58 u59 u60 u61 u62 u63 u64 u65 u66 u67 u68 u69 u70 u71 u72 u73 u74 u75 u76 u77 u78 u79 u80 u81 u82 u83 u84 u85 u86 u87 u88 u89 u90 u91 u92 u93 u94 u95 u96 u97 u98 u99 u100 u101 u102 u103 u104 u105 u106 u107 u108 u109 u110 u111 u112 u113 u114 u115 u116 u117 u118 u119 u120 u121 u122 u123 u124 u125 u126 u127 u128 u129 u130 u131 u132 u133 u134 u135 u136 u137 u138 u139 u140 u141 u142 u143 u144 u145 u146 u147 u148 u149 u150 u151 u152 u153 u154 u155 u156 u157 u158 u159 u160 u161 u162 u163 u164 u165 u166 u167 u168 u169 u170 u171 u172 u173 s5 s6 s7 s8 s9 : Value) (w' : World), RelE B w len slen g' s5 s6 s7 s8 s9 (.int .i64 ((j : Int) + 1)) w' → Q (.exit 1) ⟨#[c0, c1, c2, c3, c4, s5, s6, s7, s8, s9, c10, c11, c12, .bool wd, c14, u15, u16, u17, u18, c19, c20, c21, c22, u23, u24, u25, u26, u27, u28, u29, u30, u31, u32, u33, u34, u35, u36, u37, u38, u39, u40, u41, u42, u43, u44, u45, u46, u47, u48, u49, u50, u51, u52, u53, u54, u55, u56, u57, u58, u59, u60, u61, u62, u63, u64, u65, u66, u67, u68, u69, u70, u71, u72, u73, u74, u75, u76, u77, u78, u79, u80, u81, u82, u83, u84, u85, u86, u87, u88, u89, u90, u91, u92, u93, u94, u95, u96, u97, u98, u99, u100, u101, u102, u103, u104, u105, u106, u107, u108, u109, u110, u111, u112, u113, u114, u115, u116, u117, u118, u119, u120, u121, u122, u123, u124, u125, u126, u127, u128, u129, u130, u131, u132, u133, u134, u135, u136, u137, u138, u139, u140, u141, u142, u143, u144, u145, u146, u147, u148, u149, u150, u151, u152, u153, u154, u155, u156, u157, u158, u159, u160, u161, u162, u163, u164, u165, u166, u167, u168, u169, u170, u171, u172, u173, c174, c175, c176, c177, c178, c179, c180, c181, c182, c183, c184, c185, c186, c187, c188, c189, c190, c191, c192, c193, c194, c195, c196], []⟩ w') :
    Code.wp Try.prog ((Try.f23.body.bind (findIf 45)).getD .skip) Q ⟨#[c0, c1, c2, c3, c4, .slice (some ⟨go, 0, none⟩) no co, .slice (some ⟨gs, 0, none⟩) ns cs, .slice (some ⟨gf, 0, none⟩) ns cf, .int .i64 nx, .bool false, c10, c11, c12, .bool wd, c14, c15, c16, c17, c18, c19, c20, c21, c22, c23, c24, c25, c26, c27, c28, c29, c30, c31, c32, c33, c34, c35, c36, c37, c38, c39, c40, c41, c42, c43, c44, .bool true, c46, c47, c48, c49, c50, c51, c52, c53, c54, c55, c56, c57, c58, c59, c60, c61, c62, c63, c64, c65, c66, c67, c68, c69, c70, c71, c72, c73, c74, c75, c76, c77, c78, c79, c80, c81, c82, c83, c84, c85, c86, c87, c88, c89, c90, c91, c92, c93, c94, c95, c96, c97, c98, c99, c100, c101, c102, c103, c104, c105, c106, c107, c108, c109, c110, c111, c112, c113, c114, c115, c116, c117, c118, c119, c120, c121, c122, c123, c124, c125, c126, c127, c128, c129, c130, c131, c132, c133, c134, c135, c136, c137, c138, c139, c140, c141, c142, c143, c144, c145, c146, c147, c148, c149, c150, c151, c152, c153, c154, c155, c156, c157, c158, c159, c160, c161, c162, c163, c164, c165, c166, c167, c168, c169, c170, c171, c172, c173, c174, c175, c176, c177, c178, c179, c180, c181, c182, c183, c184, c185, c186, c187, c188, c189, c190, c191, c192, c193, c194, c195, c196], []⟩ wr := by
  conv => arg 2; whnf
  have HQ := hid hQ
  clear hQ
  have hj : j < len := by have := HJ.out; omega
  have HLO : Hid (out.length = no ∧ st.length = ns ∧ fl.length = ns) := HI.out.lens
  cases ns with
  | zero =>
    have HFIN := hid (relE_mk HJ.out hnx HI.out HG.out (ar1 hno (Nat.le_add_right _ _)) (Nat.zero_le _))
    go_wp2
    exact HQ.out _ _ _ _ _ _ _ _ _ _ _ _ _ _ _ _ _ _ _ _ _ _ _ _ _ _ _ _ _ _ _ _ _ _ _ _ _ _ _ _ _ _ _ _ _ _ _ _ _ _ _ _ _ _ _ _ _ _ _ _ _ _ _ _ _ _ _ _ _ _ _ _ _ _ _ _ _ _ _ _ _ _ _ _ _ _ _ _ _ _ _ _ _ _ _ _ _ _ _ _ _ _ _ _ _ _ _ _ _ _ _ _ _ _ _ _ _ _ _ _ _ _ _ _ _ _ _ _ _ _ _ _ _ _ _ _ _ _ _ _ _ _ _ _ _ _ _ _ _ _ _ _ _ _ _ _ _ _ _ _ _ (HFIN.out)
  | succ k =>
    obtain ⟨st', x, hst⟩ := snoc_of (HLO.out.2.1)
    subst hst
    have HX : Hid (x = 91 ∨ x = 123) := HG.out.stk x (by simp)
    have HKL : Hid (st'.length = k) := by have := HLO.out.2.1; simp at this; exact this
    have hcap1 : k + 1 ≤ cs := HI.out.s.cap.1
    have hcap2 : k + 1 ≤ cf := HI.out.f.cap.1
    cases wd with
    | true =>
      go_upto_region 18 with (at_builtin; refine app_new Try.underlying24 Try.info5 rfl (by rfl) _ _ (by rfl) HI.out.o (by rfl) (by rfl) (by rfl) (by omega) (by rfl) (by omega) ?_; intro g1 c1 w1 hr1 hg1)
      have HI1 := hid (HI.out.app [32, 13, 10] hr1 hg1 rfl)
      clear hr1 hg1
      have hcx : w1.cell? ⟨gs, k, none⟩ = some (.int .u8 x) := by
        rw [HI1.out.s.cell k (by omega), ← HKL.out]; simp
      by_cases hk0 : k = 0
      · have hk0' : ((k : Int) == 0) = true := by rw [hk0]; rfl
        have HK0 : Hid (k = 0) := hk0
        clear hk0
        go_wp2_with (first | (go_at_call 32; refine (closer_any x _ HX.out).mono ?_; rintro e w' ⟨⟨cl, rfl, hcl⟩, rfl⟩) | (at_builtin; refine app_new Try.underlying24 Try.info5 rfl (by rfl) _ _ (by rfl) HI1.out.o (by rfl) (by rfl) (by rfl) (by omega) (by rfl) (by omega) ?_; intro g2 c2 w2 hr2 hg2))
        exact HQ.out _ _ _ _ _ _ _ _ _ _ _ _ _ _ _ _ _ _ _ _ _ _ _ _ _ _ _ _ _ _ _ _ _ _ _ _ _ _ _ _ _ _ _ _ _ _ _ _ _ _ _ _ _ _ _ _ _ _ _ _ _ _ _ _ _ _ _ _ _ _ _ _ _ _ _ _ _ _ _ _ _ _ _ _ _ _ _ _ _ _ _ _ _ _ _ _ _ _ _ _ _ _ _ _ _ _ _ _ _ _ _ _ _ _ _ _ _ _ _ _ _ _ _ _ _ _ _ _ _ _ _ _ _ _ _ _ _ _ _ _ _ _ _ _ _ _ _ _ _ _ _ _ _ _ _ _ _ _ _ _ _ (relE_close (p := [32, 13, 10]) HJ.out hnx (by have := HI1.out.app [cl] hr2 hg2 rfl; simpa using this) HG.out rfl hcl hno (by omega) hns _ (by simp [HK0.out]))
      · have hk0' : ((k : Int) == 0) = false := by rw [beq_eq_false_iff_ne]; omega
        go_wp2_with (first | (go_at_call 32; refine (closer_any x _ HX.out).mono ?_; rintro e w' ⟨⟨cl, rfl, hcl⟩, rfl⟩) | (at_builtin; refine app_new Try.underlying24 Try.info5 rfl (by rfl) _ _ (by rfl) HI1.out.o (by rfl) (by rfl) (by rfl) (by omega) (by rfl) (by omega) ?_; intro g2 c2 w2 hr2 hg2))
        exact HQ.out _ _ _ _ _ _ _ _ _ _ _ _ _ _ _ _ _ _ _ _ _ _ _ _ _ _ _ _ _ _ _ _ _ _ _ _ _ _ _ _ _ _ _ _ _ _ _ _ _ _ _ _ _ _ _ _ _ _ _ _ _ _ _ _ _ _ _ _ _ _ _ _ _ _ _ _ _ _ _ _ _ _ _ _ _ _ _ _ _ _ _ _ _ _ _ _ _ _ _ _ _ _ _ _ _ _ _ _ _ _ _ _ _ _ _ _ _ _ _ _ _ _ _ _ _ _ _ _ _ _ _ _ _ _ _ _ _ _ _ _ _ _ _ _ _ _ _ _ _ _ _ _ _ _ _ _ _ _ _ _ _ (relE_close (p := [32, 13, 10]) HJ.out hnx (by have := HI1.out.app [cl] hr2 hg2 rfl; simpa using this) HG.out rfl hcl hno (by omega) hns _ (by simp [hk0]))
    | false =>
      have hcx : wr.cell? ⟨gs, k, none⟩ = some (.int .u8 x) := by
        rw [HI.out.s.cell k (by omega), ← HKL.out]; simp
      by_cases hk0 : k = 0
      · have hk0' : ((k : Int) == 0) = true := by rw [hk0]; rfl
        have HK0 : Hid (k = 0) := hk0
        clear hk0
        go_wp2_with (first | (go_at_call 32; refine (closer_any x _ HX.out).mono ?_; rintro e w' ⟨⟨cl, rfl, hcl⟩, rfl⟩) | (at_builtin; refine app_new Try.underlying24 Try.info5 rfl (by rfl) _ _ (by rfl) HI.out.o (by rfl) (by rfl) (by rfl) (by omega) (by rfl) (by omega) ?_; intro g2 c2 w2 hr2 hg2))
        exact HQ.out _ _ _ _ _ _ _ _ _ _ _ _ _ _ _ _ _ _ _ _ _ _ _ _ _ _ _ _ _ _ _ _ _ _ _ _ _ _ _ _ _ _ _ _ _ _ _ _ _ _ _ _ _ _ _ _ _ _ _ _ _ _ _ _ _ _ _ _ _ _ _ _ _ _ _ _ _ _ _ _ _ _ _ _ _ _ _ _ _ _ _ _ _ _ _ _ _ _ _ _ _ _ _ _ _ _ _ _ _ _ _ _ _ _ _ _ _ _ _ _ _ _ _ _ _ _ _ _ _ _ _ _ _ _ _ _ _ _ _ _ _ _ _ _ _ _ _ _ _ _ _ _ _ _ _ _ _ _ _ _ _ (relE_close (p := []) HJ.out hnx (by have := HI.out.app [cl] hr2 hg2 rfl; simpa using this) HG.out rfl hcl hno (by omega) hns _ (by simp [HK0.out]))
      · have hk0' : ((k : Int) == 0) = false := by rw [beq_eq_false_iff_ne]; omega
        go_wp2_with (first | (go_at_call 32; refine (closer_any x _ HX.out).mono ?_; rintro e w' ⟨⟨cl, rfl, hcl⟩, rfl⟩) | (at_builtin; refine app_new Try.underlying24 Try.info5 rfl (by rfl) _ _ (by rfl) HI.out.o (by rfl) (by rfl) (by rfl) (by omega) (by rfl) (by omega) ?_; intro g2 c2 w2 hr2 hg2))
        exact HQ.out _ _ _ _ _ _ _ _ _ _ _ _ _ _ _ _ _ _ _ _ _ _ _ _ _ _ _ _ _ _ _ _ _ _ _ _ _ _ _ _ _ _ _ _ _ _ _ _ _ _ _ _ _ _ _ _ _ _ _ _ _ _ _ _ _ _ _ _ _ _ _ _ _ _ _ _ _ _ _ _ _ _ _ _ _ _ _ _ _ _ _ _ _ _ _ _ _ _ _ _ _ _ _ _ _ _ _ _ _ _ _ _ _ _ _ _ _ _ _ _ _ _ _ _ _ _ _ _ _ _ _ _ _ _ _ _ _ _ _ _ _ _ _ _ _ _ _ _ _ _ _ _ _ _ _ _ _ _ _ _ _ (relE_close (p := []) HJ.out hnx (by have := HI.out.app [cl] hr2 hg2 rfl; simpa using this) HG.out rfl hcl hno (by omega) hns _ (by simp [hk0]))


set_option maxRecDepth 100000 in
set_option maxHeartbeats 8000000 in
theorem enc_if74 (c0 c2 c3 c4 c9 c10 c11 c12 c15 c16 c17 c18 c19 c20 c21 c22 c23 c24 c25 c26 c27 c28 c29 c30 c31 c32 c33 c34 c35 c36 c37 c38 c39 c40 c41 c42 c43 c44 c45 c46 c47 c48 c49 c50 c51 c52 c53 c54 c55 c56 c57 c58 c59 c60 c61 c62 c63 c64 c65 c66 c67 c68 c69 c70 c71 c72 c73 c75 c76 c77 c78 c79 c80 c81 c82 c83 c84 c85 c86 c87 c88 c89 c90 c91 c92 c93 c94 c95 c96 c97 c98 c99 c100 c101 c102 c103 c104 c105 c106 c107 c108 c109 c110 c111 c112 c113 c114 c115 c116 c117 c118 c119 c120 c121 c122 c123 c124 c125 c126 c127 c128 c129 c130 c131 c132 c133 c134 c135 c136 c137 c138 c139 c140 c141 c142 c143 c144 c145 c146 c147 c148 c149 c150 c151 c152 c153 c154 c155 c156 c157 c158 c159 c160 c161 c162 c163 c164 c165 c166 c167 c168 c169 c170 c171 c172 c173 c174 c175 c176 c177 c178 c179 c180 c181 c182 c183 c184 c185 c186 c187 c188 c189 c190 c191 c192 c193 c194 c195 c196 : Value) (B : Nat) (w wr : World) (so : Option Addr) (len slen scap j go no co gs ns cs gf cf nx : Nat) (out st : List Int) (fl : List Bool) (wd tg : Bool) (Q : Exit → Act → World → Prop) (hnx : nx ≤ slen) (HI : Hid (Inv B w wr go no co gs ns cs gf cf out st fl)) (HG : Hid (Good out st false)) (hno : no ≤ j * 20000000) (hns : ns ≤ j) (hjl : j ≤ len) (hlen : len ≤ 1048576) (hslen : slen ≤ 1048576) (HSTR : Hid (StrsAt B w so slen))
    (hQ : ∀ (u15 u16 u17 u18 u23 u24 u25 u26 u27 u28 u29 u30 u31 u32 u33 u34 u35 u36 u37 u38 u39 u40 u41 u42 u43 u44 u45 u46 u47 u48 u49 u50 u51 u52 u53 u54 u55 u56 u57 u58 u59 u60 u61 u62 u63 u64 u65 u66 u67 u68 u69 u70 u71 u72 u73 u74 u75 u76 u77 u78 u79 u80 u81 u82 u83 u84 u85 u86 u87 u88 u89 u90 u91 u92 u93 u94 u95 u96 u97 u98 u99 u100 u101 u102 u103 u104 u105 u106 u107 u108 u109 u110 u111 u112 u113 u114 u115 u116 u117 u118 u119 u120 u121 u122 u123 u124 u125 u126 u127 u128 u129 u130 u131 u132 u133 u134 u135 u136 u137 u138 u139 u140 u141 u142 u143 u144 u145 u146 u147 u148 u149 u150 u151 u152 u153 u154 u155 u156 u157 u158 u159 u160 u161 u162 u163 u164 u165 u166 u167 u168 u169 u170 u171 u172 u173 s5 s8 : Value) (wc : World), RelP B w slen gs ns cs gf cf no st s5 s8 wc → Q .normal ⟨#[c0, .slice so slen scap, c2, c3, c4, s5, .slice (some ⟨gs, 0, none⟩) ns cs, .slice (some ⟨gf, 0, none⟩) ns cf, s8, c9, c10, c11, c12, .bool wd, .bool tg, u15, u16, u17, u18, c19, c20, c21, c22, u23, u24, u25, u26, u27, u28, u29, u30, u31, u32, u33, u34, u35, u36, u37, u38, u39, u40, u41, u42, u43, u44, u45, u46, u47, u48, u49, u50, u51, u52, u53, u54, u55, u56, u57, u58, u59, u60, u61, u62, u63, u64, u65, u66, u67, u68, u69, u70, u71, u72, u73, u74, u75, u76, u77, u78, u79, u80, u81, u82, u83, u84, u85, u86, u87, u88, u89, u90, u91, u92, u93, u94, u95, u96, u97, u98, u99, u100, u101, u102, u103, u104, u105, u106, u107, u108, u109, u110, u111, u112, u113, u114, u115, u116, u117, u118, u119, u120, u121, u122, u123, u124, u125, u126, u127, u128, u129, u130, u131, u132, u133, u134, u135, u136, u137, u138, u139, u140, u141, u142, u143, u144, u145, u146, u147, u148, u149, u150, u151, u152, u153, u154, u155, u156, u157, u158, u159, u160, u161, u162, u163, u164, u165, u166, u167, u168, u169, u170, u171, u172, u173, c174, c175, c176, c177, c178, c179, c180, c181, c182, c183, c184, c185, c186, c187, c188, c189, c190, c191, c192, c193, c194, c195, c196], []⟩ wc) :
    Code.wp Try.prog ((Try.f23.body.bind (findIf 74)).getD .skip) Q ⟨#[c0, .slice so slen scap, c2, c3, c4, .slice (some ⟨go, 0, none⟩) no co, .slice (some ⟨gs, 0, none⟩) ns cs, .slice (some ⟨gf, 0, none⟩) ns cf, .int .i64 nx, c9, c10, c11, c12, .bool wd, .bool tg, c15, c16, c17, c18, c19, c20, c21, c22, c23, c24, c25, c26, c27, c28, c29, c30, c31, c32, c33, c34, c35, c36, c37, c38, c39, c40, c41, c42, c43, c44, c45, c46, c47, c48, c49, c50, c51, c52, c53, c54, c55, c56, c57, c58, c59, c60, c61, c62, c63, c64, c65, c66, c67, c68, c69, c70, c71, c72, c73, .bool (decide (0 < ns)), c75, c76, c77, c78, c79, c80, c81, c82, c83, c84, c85, c86, c87, c88, c89, c90, c91, c92, c93, c94, c95, c96, c97, c98, c99, c100, c101, c102, c103, c104, c105, c106, c107, c108, c109, c110, c111, c112, c113, c114, c115, c116, c117, c118, c119, c120, c121, c122, c123, c124, c125, c126, c127, c128, c129, c130, c131, c132, c133, c134, c135, c136, c137, c138, c139, c140, c141, c142, c143, c144, c145, c146, c147, c148, c149, c150, c151, c152, c153, c154, c155, c156, c157, c158, c159, c160, c161, c162, c163, c164, c165, c166, c167, c168, c169, c170, c171, c172, c173, c174, c175, c176, c177, c178, c179, c180, c181, c182, c183, c184, c185, c186, c187, c188, c189, c190, c191, c192, c193, c194, c195, c196], []⟩ wr := by
  conv => arg 2; whnf
  have HQ := hid hQ
  clear hQ
  have HLO : Hid (out.length = no ∧ st.length = ns ∧ fl.length = ns) := HI.out.lens
  cases ns with
  | zero =>
    go_wp2
    exact HQ.out _ _ _ _ _ _ _ _ _ _ _ _ _ _ _ _ _ _ _ _ _ _ _ _ _ _ _ _ _ _ _ _ _ _ _ _ _ _ _ _ _ _ _ _ _ _ _ _ _ _ _ _ _ _ _ _ _ _ _ _ _ _ _ _ _ _ _ _ _ _ _ _ _ _ _ _ _ _ _ _ _ _ _ _ _ _ _ _ _ _ _ _ _ _ _ _ _ _ _ _ _ _ _ _ _ _ _ _ _ _ _ _ _ _ _ _ _ _ _ _ _ _ _ _ _ _ _ _ _ _ _ _ _ _ _ _ _ _ _ _ _ _ _ _ _ _ _ _ _ _ _ _ _ _ _ _ _ _ (⟨go, no, co, nx, out, fl, rfl, rfl, hnx, HI.out, HG.out, Nat.le_add_right _ _⟩)
  | succ k =>
    obtain ⟨st', x, hst⟩ := snoc_of (HLO.out.2.1)
    subst hst
    have HX : Hid (x = 91 ∨ x = 123) := HG.out.stk x (by simp)
    have HKL : Hid (st'.length = k) := by have := HLO.out.2.1; simp at this; exact this
    have hcap1 : k + 1 ≤ cs := HI.out.s.cap.1
    have hcap2 : k + 1 ≤ cf := HI.out.f.cap.1
    obtain ⟨fb, hcf⟩ : ∃ fb, wr.cell? ⟨gf, k, none⟩ = some (.bool fb) := by
      have hl : k < fl.length := by have := HLO.out.2.2; omega
      exact ⟨fl[k], by rw [HI.out.f.cell k (by omega)]; simp [hl]⟩
    go_upto_if 81 with fail
    clear hcf
    go_cut [5] from 23 to 173 (fun s5 wc => RelC B w gs (k + 1) cs gf cf no (st' ++ [x]) s5 wc)
    case first =>
      cases fb with
      | false =>
        go_wp2
        go_meet
        case rel => exact ⟨go, no, co, out, fl, rfl, HI.out, HG.out, Nat.le_add_right _ _⟩
      | true =>
        cases wd with
        | false =>
          go_wp2_with (at_builtin; refine app_new Try.underlying24 Try.info5 rfl (by rfl) _ _ (by rfl) HI.out.o (by rfl) (by rfl) (by rfl) (by omega) (by rfl) (by omega) ?_; intro g1 c1 w1 hr1 hg1)
          go_meet
          case rel => exact ⟨g1, _, c1, _, fl, rfl, HI.out.app [44] hr1 hg1 rfl, HG.out.ws (by simp) rfl, by omega⟩
        | true =>
          go_upto_region 28 with (at_builtin; refine app_new Try.underlying24 Try.info5 rfl (by rfl) _ _ (by rfl) HI.out.o (by rfl) (by rfl) (by rfl) (by omega) (by rfl) (by omega) ?_; intro g1 c1 w1 hr1 hg1)
          have HI1 := hid (HI.out.app [44] hr1 hg1 rfl)
          clear hr1 hg1
          go_wp2_with (at_builtin; refine app_new Try.underlying24 Try.info5 rfl (by rfl) _ _ (by rfl) HI1.out.o (by rfl) (by rfl) (by rfl) (by omega) (by rfl) (by omega) ?_; intro g2 c2 w2 hr2 hg2)
          go_meet
          case rel => exact ⟨g2, _, c2, _, fl, rfl, HI1.out.app [32, 10] hr2 hg2 rfl, (HG.out.ws (p := [44]) (by simp) rfl).ws (by simp) rfl, by omega⟩
    case rest =>
      obtain ⟨g1, n1, c1, out1, fl1, rfl, hI1, hG1, hn1⟩ := hcut
      have HI1 := hid hI1
      have HG1 := hid hG1
      clear hI1 hG1
      obtain ⟨fb', hcf⟩ : ∃ fb, wc.cell? ⟨gf, k, none⟩ = some (.bool fb) := by
        have hl : k < fl1.length := by have := HI1.out.lens.2.2; omega
        exact ⟨fl1[k], by rw [HI1.out.f.cell k (by omega)]; simp [hl]⟩
      have hcz := HI1.out.f.free k
      go_upto_region 30 with fail
      clear hcf hcz
      have HI2 := hid (HI1.out.fill k)
      generalize wc.setCell ⟨gf, k, none⟩ (.bool true) = wd2 at *
      clear HI1
      have hcx : wd2.cell? ⟨gs, k, none⟩ = some (.int .u8 x) := by
        rw [HI2.out.s.cell k (by omega), ← HKL.out]; simp
      rcases HX.out with rfl | rfl
      · go_wp2
        exact HQ.out _ _ _ _ _ _ _ _ _ _ _ _ _ _ _ _ _ _ _ _ _ _ _ _ _ _ _ _ _ _ _ _ _ _ _ _ _ _ _ _ _ _ _ _ _ _ _ _ _ _ _ _ _ _ _ _ _ _ _ _ _ _ _ _ _ _ _ _ _ _ _ _ _ _ _ _ _ _ _ _ _ _ _ _ _ _ _ _ _ _ _ _ _ _ _ _ _ _ _ _ _ _ _ _ _ _ _ _ _ _ _ _ _ _ _ _ _ _ _ _ _ _ _ _ _ _ _ _ _ _ _ _ _ _ _ _ _ _ _ _ _ _ _ _ _ _ _ _ _ _ _ _ _ _ _ _ _ _ (⟨g1, n1, c1, nx, out1, _, rfl, rfl, hnx, HI2.out, HG1.out, by omega⟩)
      · go_upto_if 100 with fail
        clear hcx
        go_cut [8, 17] from 23 to 173 (fun s8 s17 wx => ∃ (n8 : Nat) (sk : ByteArray), s8 = .int .i64 n8 ∧ n8 ≤ slen ∧ s17 = .string sk ∧ sk.size ≤ 1048576 ∧ wx = wd2)
        case first =>
          by_cases hnl : nx < slen
          · obtain ⟨b2, o2, sk, rfl, hb2, hcs, hsz⟩ := HSTR.out nx hnl
            rw [← HI2.out.bel.cell (p := ⟨b2, o2 + nx, none⟩) hb2] at hcs
            go_wp2
            go_meet
            case rel => exact ⟨nx + 1, sk, by go_num, hnl, rfl, hsz, rfl⟩
          · go_wp2
            go_meet
            case rel => exact ⟨nx, _, rfl, hnx, rfl, by decide, rfl⟩
        case rest =>
          obtain ⟨n8, sk, rfl, hn8, rfl, hsk, rfl⟩ := hcut
          have HAJ := hid (appJson_any B g1 n1 c1 out1 sk _ HI2.out.o hsk (by omega))
          go_upto_region 36 with (go_at_call 33; refine HAJ.out.mono ?_; rintro e w3 ⟨g3, n3, c3, body, rfl, hr3, hg3, hin, hrg, hbl⟩)
          have HI3 := hid (HI2.out.out hr3 hg3)
          have hn3 : n3 ≤ no + 6291461 := by
            have h1 := HI3.out.lens.1
            have h2 := HI2.out.lens.1
            simp at h1
            omega
          have HG3 := hid (HG1.out.val (by simp) (str_range body hrg) (str_val body hin))
          clear hr3 hg3 hin hrg hbl HAJ HG1 HI2
          cases tg with
          | false =>
            go_wp2_with (at_builtin; refine app_new Try.underlying24 Try.info5 rfl (by rfl) _ _ (by rfl) HI3.out.o (by rfl) (by rfl) (by rfl) (by omega) (by rfl) (by omega) ?_; intro g4 c4 w4 hr4 hg4)
            exact HQ.out _ _ _ _ _ _ _ _ _ _ _ _ _ _ _ _ _ _ _ _ _ _ _ _ _ _ _ _ _ _ _ _ _ _ _ _ _ _ _ _ _ _ _ _ _ _ _ _ _ _ _ _ _ _ _ _ _ _ _ _ _ _ _ _ _ _ _ _ _ _ _ _ _ _ _ _ _ _ _ _ _ _ _ _ _ _ _ _ _ _ _ _ _ _ _ _ _ _ _ _ _ _ _ _ _ _ _ _ _ _ _ _ _ _ _ _ _ _ _ _ _ _ _ _ _ _ _ _ _ _ _ _ _ _ _ _ _ _ _ _ _ _ _ _ _ _ _ _ _ _ _ _ _ _ _ _ _ _ (⟨g4, _, c4, n8, _, _, rfl, rfl, hn8, HI3.out.app [58] hr4 hg4 rfl, HG3.out.ws (by simp) rfl, by omega⟩)
          | true =>
            go_upto_region 38 with (at_builtin; refine app_new Try.underlying24 Try.info5 rfl (by rfl) _ _ (by rfl) HI3.out.o (by rfl) (by rfl) (by rfl) (by omega) (by rfl) (by omega) ?_; intro g4 c4 w4 hr4 hg4)
            have HI4 := hid (HI3.out.app [58] hr4 hg4 rfl)
            clear hr4 hg4
            go_wp2_with (at_builtin; refine app_new Try.underlying24 Try.info5 rfl (by rfl) _ _ (by rfl) HI4.out.o (by rfl) (by rfl) (by rfl) (by omega) (by rfl) (by omega) ?_; intro g5 c5 w5 hr5 hg5)
            exact HQ.out _ _ _ _ _ _ _ _ _ _ _ _ _ _ _ _ _ _ _ _ _ _ _ _ _ _ _ _ _ _ _ _ _ _ _ _ _ _ _ _ _ _ _ _ _ _ _ _ _ _ _ _ _ _ _ _ _ _ _ _ _ _ _ _ _ _ _ _ _ _ _ _ _ _ _ _ _ _ _ _ _ _ _ _ _ _ _ _ _ _ _ _ _ _ _ _ _ _ _ _ _ _ _ _ _ _ _ _ _ _ _ _ _ _ _ _ _ _ _ _ _ _ _ _ _ _ _ _ _ _ _ _ _ _ _ _ _ _ _ _ _ _ _ _ _ _ _ _ _ _ _ _ _ _ _ _ _ _ (⟨g5, _, c5, n8, _, _, rfl, rfl, hn8, HI4.out.app [32, 9] hr5 hg5 rfl, (HG3.out.ws (p := [58]) (by simp) rfl).ws (by simp) rfl, by omega⟩)

end Go.Proofs.Qxb6000759a

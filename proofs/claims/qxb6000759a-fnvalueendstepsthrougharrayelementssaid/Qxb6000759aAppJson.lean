/-
  hexDigit (43), appendJSONString (33).
-/
import Derived.Test.Qxb6000759aOwn
import Derived.Test.Qxb6000759aJson
import Derived.WalkLawsBesides
namespace Go.Proofs.Qxb6000759a
open Go.RowKit

theorem hex_any (v : Int) (w : World) (h0 : 0 ≤ v) (h1 : v < 16) :
    Calls Try.prog 43 #[.int .u8 v] w fun e w' => (∃ x : Int, e = .returned (.int .u8 x) ∧ 48 ≤ x ∧ x < 128 ∧ x ≠ 92) ∧ w' = w := by
  by_cases h : v < 10
  · go_enter Try.func43, Try.ntmps43
    go_wp2
    go_ret
    exact ⟨⟨48 + v, rfl, by omega, by omega, by omega⟩, rfl⟩
  · go_enter Try.func43, Try.ntmps43
    go_wp2
    go_ret
    exact ⟨⟨97 + v - 10, rfl, by omega, by omega, by omega⟩, rfl⟩

/-- what the loop's relation says -/
def RelA (B : Nat) (w : World) (g : Nat) (xs : List Int) (s : ByteArray) (s0 s5 : Value) (wr : World) : Prop :=
  ∃ (k g1 n1 c1 : Nat) (body : List Int), k ≤ s.size ∧ s5 = .int .i64 k ∧ s0 = .slice (some ⟨g1, 0, none⟩) n1 c1 ∧ Row 5 B wr g1 n1 c1 ((xs ++ 34 :: body).map (Value.int .u8)) ∧
      GrewB w wr g g1 ∧ Js.inside body 1 = true ∧ (∀ x ∈ body, 0 ≤ x ∧ x < 256) ∧ body.length ≤ 6 * k

theorem relA_step {B : Nat} {w wr w2 : World} {g g2 g3 n3 c3 k : Nat} {xs body : List Int} {s : ByteArray} {nv : List Value} (news : List Int) (hk : k < s.size) (hgr2 : GrewB w wr g g2) (hin : Js.inside body 1 = true)
    (hrg : ∀ x ∈ body, 0 ≤ x ∧ x < 256) (hbl : body.length ≤ 6 * k) (hrow3 : Row 5 B w2 g3 n3 c3 ((xs ++ 34 :: body).map (Value.int .u8) ++ nv)) (hgr3 : GrewB wr w2 g2 g3)
    (hnv : nv = news.map (Value.int .u8)) (hin' : Js.inside news 1 = true) (hrg' : ∀ x ∈ news, 0 ≤ x ∧ x < 256) (hl : news.length ≤ 6) (s5 : Value) (h5 : s5 = .int .i64 ((k + 1 : Nat) : Int)) :
    RelA B w g xs s (.slice (some ⟨g3, 0, none⟩) n3 c3) s5 w2 := by
  refine ⟨k + 1, g3, n3, c3, body ++ news, by omega, h5, rfl, ?_, hgr2.trans hgr3, Js.inside_append _ _ _ (.inl rfl) hin hin', ?_, ?_⟩
  · rw [hnv, ← List.map_append] at hrow3
    simpa using hrow3
  · intro x hx
    rcases List.mem_append.1 hx with h | h
    · exact hrg x h
    · exact hrg' x h
  · simp; omega

theorem inside_hex (x1 x2 : Int) (a : 48 ≤ x1) (a' : x1 ≠ 92) (b : 48 ≤ x2) (b' : x2 ≠ 92) : Js.inside [92, 117, 48, 48, x1, x2] 1 = true := by
  have a0 : ¬ x1 = 34 := by omega
  have b0 : ¬ x2 = 34 := by omega
  simp [Js.inside, a0, b0, a', b']
theorem inside_two (x1 x2 : Int) (a : 93 ≤ x1) (b : 93 ≤ x2) : Js.inside [x1, x2] 1 = true := by
  have a0 : ¬ x1 = 34 := by omega
  have b0 : ¬ x2 = 34 := by omega
  have a1 : ¬ x1 = 92 := by omega
  have b1 : ¬ x2 = 92 := by omega
  simp [Js.inside, a0, b0, a1, b1]

/-- what the call comes to -/
def PostA (B : Nat) (w : World) (g : Nat) (xs : List Int) (s : ByteArray) (e : Ending) (w' : World) : Prop :=
  ∃ (g' n' c' : Nat) (body : List Int), e = .returned (.slice (some ⟨g', 0, none⟩) n' c') ∧ Row 5 B w' g' n' c' ((xs ++ 34 :: (body ++ [34])).map (Value.int .u8)) ∧
      GrewB w w' g g' ∧ Js.inside body 1 = true ∧ (∀ x ∈ body, 0 ≤ x ∧ x < 256) ∧ body.length ≤ 6 * s.size

set_option maxRecDepth 100000 in
set_option maxHeartbeats 4000000 in
theorem appJson_any (B g n c : Nat) (xs : List Int) (s : ByteArray) (w : World) (hrow : Row 5 B w g n c (xs.map (Value.int .u8))) (hs : s.size ≤ 1048576) (hn : n ≤ 50000000000000) :
    Calls Try.prog 33 #[.slice (some ⟨g, 0, none⟩) n c, .string s] w (PostA B w g xs s) := by
  have HXN : Hid (xs.length = n) := by have := hrow.len; simp at this; exact this
  go_enter Try.func33, Try.ntmps33
  go_wp2_with (at_builtin; refine app_new Try.underlying24 Try.info5 rfl (by rfl) _ _ (by rfl) hrow (by rfl) (by rfl) (by rfl) (by omega) (by rfl) (by omega) ?_; intro g1 c1 w1 hrow1 hgr1)
  go_loopw [0, 5] (fun s0 s5 wr => RelA B w g xs s s0 s5 wr) (fun _ s5 _ => s.size - (intOf s5).toNat)
  case atStart => exact ⟨0, _, _, _, [], Nat.zero_le _, rfl, rfl, by simpa using hrow1, hgr1, rfl, by simp, by simp⟩
  case round =>
    obtain ⟨k, g2, n2, c2, body, hk, rfl, rfl, hrow2, hgr2, hin, hrg, hbl⟩ := hrel
    have HRG : Hid (∀ x ∈ body, 0 ≤ x ∧ x < 256) := hrg
    have HIN : Hid (Js.inside body 1 = true) := hin
    have hn2 : n2 ≤ 60000000000000 := by have h1 := hrow2.len; have h2 := HXN.out; simp at h1; omega
    clear hrow hrow1 hgr1 hrg hin
    by_cases hlt : k < s.size
    · have hz0 : (0 : Int) ≤ (s[k].toNat : Int) := by omega
      have hz1 : (s[k].toNat : Int) < 256 := by have := s[k].toNat_lt; omega
      by_cases heq : (s[k].toNat : Int) = 34 ∨ (s[k].toNat : Int) = 92 ∨ (s[k].toNat : Int) = 47 ∨ (s[k].toNat : Int) = 10 ∨ (s[k].toNat : Int) = 9 ∨ (s[k].toNat : Int) = 13 ∨ (s[k].toNat : Int) = 8 ∨ (s[k].toNat : Int) = 12
      · rcases heq with h | h | h | h | h | h | h | h
        all_goals
          go_wp2_with (at_builtin; refine app_new Try.underlying24 Try.info5 rfl (by rfl) _ _ (by rfl) hrow2 (by rfl) (by rfl) (by rfl) (by omega) (by rfl) (by omega) ?_; intro g3 c3 w3 hrow3 hgr3)
          go_roundw
          case rel => exact relA_step [92, _] hlt hgr2 HIN.out HRG.out hbl hrow3 hgr3 rfl rfl (by simp) (by simp) _ (by go_num)
          case measure => simp [intOf]; omega
      · have e1 : ((s[k].toNat : Int) == 34) = false := beq_eq_false_iff_ne.2 (by omega)
        have e2 : ((s[k].toNat : Int) == 92) = false := beq_eq_false_iff_ne.2 (by omega)
        have e3 : ((s[k].toNat : Int) == 47) = false := beq_eq_false_iff_ne.2 (by omega)
        have e4 : ((s[k].toNat : Int) == 10) = false := beq_eq_false_iff_ne.2 (by omega)
        have e5 : ((s[k].toNat : Int) == 9) = false := beq_eq_false_iff_ne.2 (by omega)
        have e6 : ((s[k].toNat : Int) == 13) = false := beq_eq_false_iff_ne.2 (by omega)
        have e7 : ((s[k].toNat : Int) == 8) = false := beq_eq_false_iff_ne.2 (by omega)
        have e8 : ((s[k].toNat : Int) == 12) = false := beq_eq_false_iff_ne.2 (by omega)
        have HEQ : Hid (¬ (s[k].toNat : Int) = 34 ∧ ¬ (s[k].toNat : Int) = 92) := by show _ ∧ _; omega
        clear heq
        by_cases h32 : (s[k].toNat : Int) < 32
        · go_wp2_with fail
          refine (hex_any _ _ (by omega) (by omega)).mono ?_
          rintro e w' ⟨⟨x1, rfl, a1, a2, a3⟩, rfl⟩
          have A3 : Hid (x1 ≠ 92) := a3
          clear a3
          go_wp2_with fail
          refine (hex_any _ _ (by omega) (by omega)).mono ?_
          rintro e w' ⟨⟨x2, rfl, b1, b2, b3⟩, rfl⟩
          have B3 : Hid (x2 ≠ 92) := b3
          clear b3
          go_wp2_with (at_builtin; refine app_new Try.underlying24 Try.info5 rfl (by rfl) _ _ (by rfl) hrow2 (by rfl) (by rfl) (by rfl) (by omega) (by rfl) (by omega) ?_; intro g3 c3 w3 hrow3 hgr3)
          go_roundw
          case rel => exact relA_step [92, 117, 48, 48, x1, x2] hlt hgr2 HIN.out HRG.out hbl hrow3 hgr3 rfl (inside_hex x1 x2 a1 A3.out b1 B3.out) (by simp; omega) (by simp) _ (by go_num)
          case measure => simp [intOf]; omega
        · by_cases h128 : (128 : Int) ≤ (s[k].toNat : Int)
          · go_wp2_with (at_builtin; refine app_new Try.underlying24 Try.info5 rfl (by rfl) _ _ (by rfl) hrow2 (by rfl) (by rfl) (by rfl) (by omega) (by rfl) (by omega) ?_; intro g3 c3 w3 hrow3 hgr3)
            go_roundw
            case rel => exact relA_step [192 + (s[k].toNat : Int) / 64, 128 + (s[k].toNat : Int) % 64] hlt hgr2 HIN.out HRG.out hbl hrow3 hgr3 rfl (inside_two _ _ (by omega) (by omega)) (by simp; omega) (by simp) _ (by go_num)
            case measure => simp [intOf]; omega
          · go_wp2_with (at_builtin; refine app_new Try.underlying24 Try.info5 rfl (by rfl) _ _ (by rfl) hrow2 (by rfl) (by rfl) (by rfl) (by omega) (by rfl) (by omega) ?_; intro g3 c3 w3 hrow3 hgr3)
            go_roundw
            case rel => exact relA_step [(s[k].toNat : Int)] hlt hgr2 HIN.out HRG.out hbl hrow3 hgr3 rfl (by simp only [Js.inside, HEQ.out.1, HEQ.out.2, if_false]; simp) (by simp; omega) (by simp) _ (by go_num)
            case measure => simp [intOf]; omega
    · have hkk : k = s.size := by omega
      clear hk
      go_wp2_with (at_builtin; refine app_new Try.underlying24 Try.info5 rfl (by rfl) _ _ (by rfl) hrow2 (by rfl) (by rfl) (by rfl) (by omega) (by rfl) (by omega) ?_; intro g3 c3 w3 hrow3 hgr3)
      go_ret
      exact ⟨g3, _, c3, body, rfl, by simpa using hrow3, hgr2.trans hgr3, HIN.out, HRG.out, by omega⟩
end Go.Proofs.Qxb6000759a

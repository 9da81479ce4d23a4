/-
  stringEnd (44), valueEnd (35) and what they stand on.
-/
import Derived.Test.Qxb6000759aProg
import Derived.Test.Qxb6000759aJson
import Derived.WalkKit
import Derived.Laws.Externs
import Derived.Lib.BytesEntry
namespace Go.Proofs.Qxb6000759a
open Go.RowKit

/-- the bytes D lie in block b from its head on -/
def Mem (w : World) (b : Nat) (D : List Int) : Prop := ∀ k, k < D.length → w.cell? ⟨b, k, none⟩ = some (.int .u8 (D.getD k 0))

theorem indexByte_first (t rest : List Int) (h34 : 34 ∉ t) (hr : ∀ x ∈ t, 0 ≤ x ∧ x < 256) : Lib.indexByte (Lib.bytesOf (t ++ 34 :: rest)) 34 = t.length := by
  induction t with
  | nil => simp [Lib.bytesOf, Lib.indexByte]
  | cons x t ih =>
    simp only [List.mem_cons, not_or] at h34
    have hx := hr x (by simp)
    have ih' := ih h34.2 (fun y hy => hr y (by simp [hy]))
    simp only [Lib.bytesOf, List.cons_append, List.map_cons] at ih' ⊢
    unfold Lib.indexByte
    have hne : (UInt8.ofNat x.toNat == 34) = false := by
      rw [beq_eq_false_iff_ne]
      intro e
      have := congrArg UInt8.toNat e
      simp at this
      omega
    rw [hne, ih']
    simp

set_option maxHeartbeats 2000000 in
theorem indexByte_any (b o n c : Nat) (t rest : List Int) (w : World) (hn : (t ++ 34 :: rest).length = n) (h34 : 34 ∉ t) (hr : ∀ x ∈ t, 0 ≤ x ∧ x < 256)
    (hc : ∀ i, i < n → w.cell? ⟨b, o + i, none⟩ = some (.int .u8 ((t ++ 34 :: rest).getD i 0))) :
    Calls Try.prog 50 #[.slice (some ⟨b, o, none⟩) n c, .int .u8 34] w fun e w' => e = .returned (.int .i64 t.length) ∧ w' = w := by
  have hx : Lib.indexByte (Lib.bytesOf (t ++ 34 :: rest)) 34 = t.length := indexByte_first t rest h34 hr
  go_enter Try.func50, Try.ntmps50
  go_wp2
  rw [run_callFunc_extern Try.func53 (by kernel_rfl) (by kernel_rfl) (by kernel_rfl) (e := Extern.BytealgIndexByte.indexByte) (by kernel_rfl), Lib.run_indexByteSlice w b o n c _ hn hc 34]
  simp only [Result.andThen]
  rw [Oper.upon_value]
  go_wp2
  go_ret
  exact ⟨rfl, rfl⟩

theorem getD_mid (p l : List Int) (k : Nat) : (p ++ l).getD (p.length + k) 0 = l.getD k 0 := by
  rw [List.getD_eq_getElem?_getD, List.getD_eq_getElem?_getD, List.getElem?_append_right (by omega)]
  congr 2
  omega
theorem getD_head (l r : List Int) (k : Nat) (h : k < l.length) : (l ++ r).getD k 0 = l.getD k 0 := by
  rw [List.getD_eq_getElem?_getD, List.getD_eq_getElem?_getD, List.getElem?_append_left h]

theorem quote_step (q post : List Int) (hq : Js.inside q 1 = true) : ∃ t rest, q ++ 34 :: post = t ++ 34 :: rest ∧ 34 ∉ t ∧
    ((Js.mode t 1 = 1 ∧ t = q) ∨ (Js.mode t 1 = 2 ∧ ∃ q', rest = q' ++ 34 :: post ∧ Js.inside q' 1 = true)) := by
  rcases Js.first_quote q with h | ⟨t, b, rfl, h⟩
  · exact ⟨q, post, rfl, h, .inl ⟨Js.inside_mode q 1 (.inl rfl) hq h, rfl⟩⟩
  · obtain ⟨h1, h2⟩ := Js.inside_quote t b 1 (.inl rfl) hq h
    exact ⟨t, b ++ 34 :: post, by simp, h, .inr ⟨h1, b, rfl, h2⟩⟩

theorem par_succ (m : Nat) : (!(m % 2 == 1)) = ((m + 1) % 2 == 1) := by
  by_cases h : m % 2 = 1
  · rw [beq_iff_eq.2 h, beq_eq_false_iff_ne.2 (by omega)]; rfl
  · rw [beq_eq_false_iff_ne.2 h, beq_iff_eq.2 (by omega)]; rfl

set_option maxHeartbeats 2000000 in
theorem stringEnd_any (b n cap : Nat) (pre body post : List Int) (D : List Int) (w : World) (hD : D = pre ++ 34 :: (body ++ 34 :: post)) (hn : D.length = n) (hin : Js.inside body 1 = true)
    (hmem : Mem w b D) (hbytes : ∀ x ∈ D, 0 ≤ x ∧ x < 256) (hcap : n ≤ cap) (hbig : n ≤ 1000000000000000000) (i : Int) (hi : i = pre.length) :
    Calls Try.prog 44 #[.slice (some ⟨b, 0, none⟩) n cap, .int .i64 i] w fun e w' => e = .returned (.int .i64 (pre.length + body.length + 2)) ∧ w' = w := by
  subst hi
  have HM : Hid (Mem w b D) := hmem
  have HD : Hid (D = pre ++ 34 :: (body ++ 34 :: post)) := hD
  have HN : Hid (D.length = n) := hn
  have HL : Hid (n = pre.length + body.length + 2 + post.length) := by show n = _; rw [← hn, hD]; simp; omega
  clear hmem hD hn
  go_enter Try.func44, Try.ntmps44
  go_wp2
  go_loop [1] (fun s1 => ∃ p q : List Int, D = p ++ 34 :: (q ++ 34 :: post) ∧ Js.inside q 1 = true ∧ s1 = .int .i64 p.length) (fun s1 => n - (intOf s1).toNat)
  case atStart => exact ⟨pre, body, HD.out, hin, rfl⟩
  case round =>
    obtain ⟨p, q, hpq, hq, rfl⟩ := hrel
    obtain ⟨t, rest, htr, h34, hcase⟩ := quote_step q post hq
    have HC : Hid ((Js.mode t 1 = 1 ∧ t = q) ∨ (Js.mode t 1 = 2 ∧ ∃ q', rest = q' ++ 34 :: post ∧ Js.inside q' 1 = true)) := hcase
    have HL2 : Hid (n = p.length + q.length + 2 + post.length) := by show n = _; rw [← HN.out, hpq]; simp; omega
    have HTL : Hid (t.length + rest.length = q.length + post.length) := by
      have := congrArg List.length htr; simp at this; show _ = _; omega
    have hp1 : (p.length : Int) + 1 ≤ n := by have := HL2.out; omega
    have hp2 : (p.length : Int) + 1 ≤ cap := by omega
    have hpt : p.length + t.length + 2 ≤ n := by have := HL2.out; have := HTL.out; omega
    have hDt : D = (p ++ [34]) ++ (t ++ 34 :: rest) := by rw [hpq, htr]; simp
    have HDt : Hid (D = (p ++ [34]) ++ (t ++ 34 :: rest)) := hDt
    have HT : Hid (q ++ 34 :: post = t ++ 34 :: rest) := htr
    have HPQ : Hid (D = p ++ 34 :: (q ++ 34 :: post)) := hpq
    have hby : ∀ x ∈ t, 0 ≤ x ∧ x < 256 := fun x hx => hbytes x (by rw [hDt]; simp [hx])
    have HBY : Hid (∀ x ∈ t, 0 ≤ x ∧ x < 256) := hby
    have HIB : Hid (∀ c, Calls Try.prog 50 #[.slice (some ⟨b, p.length + 1, none⟩) (n - (p.length + 1)) c, .int .u8 34] w fun e w' => e = .returned (.int .i64 t.length) ∧ w' = w) := fun c =>
      indexByte_any b (p.length + 1) (n - (p.length + 1)) c t rest w (by have := HL2.out; have := HTL.out; simp; omega) h34 hby (fun k hk => by
        rw [HM.out (p.length + 1 + k) (by rw [HN.out]; omega), hDt, show p.length + 1 = (p ++ [34]).length from by simp, getD_mid])
    obtain ⟨r, hr, hr1, hr2, hr3⟩ := Js.run_of t
    have HR1 : Hid (∀ m, m < r → w.cell? ⟨b, p.length + t.length - m, none⟩ = some (.int .u8 92)) := fun m hm => by
      rw [HM.out (p.length + t.length - m) (by rw [HN.out]; omega), hDt, show p.length + t.length - m = p.length + (t.length - m) from by omega, List.append_assoc, getD_mid,
        show [34] ++ (t ++ 34 :: rest) = (34 :: t) ++ 34 :: rest from by simp, getD_head _ _ _ (by simp; omega), hr1 m hm]
    have HR2 : Hid (∃ x, w.cell? ⟨b, p.length + t.length - r, none⟩ = some (.int .u8 x) ∧ (x == 92) = false) := ⟨_, by
      rw [HM.out (p.length + t.length - r) (by rw [HN.out]; omega), hDt, show p.length + t.length - r = p.length + (t.length - r) from by omega, List.append_assoc, getD_mid,
        show [34] ++ (t ++ 34 :: rest) = (34 :: t) ++ 34 :: rest from by simp, getD_head _ _ _ (by simp; omega)], by rw [beq_eq_false_iff_ne]; exact hr2⟩
    have HR3 : Hid (Js.mode t 1 = if r % 2 = 1 then 2 else 1) := hr3
    clear hcase hDt htr hpq hby hbytes hr1 hr2 hr3
    go_wp2_with (go_at_call 50; refine (HIB.out _).mono ?_; rintro e w' ⟨rfl, rfl⟩)
    go_loop [5, 6] (fun s5 s6 => ∃ m k : Nat, m ≤ r ∧ k + m = p.length + t.length ∧ s5 = .bool (m % 2 == 1) ∧ s6 = .int .i64 (k : Int)) (fun _ s6 => (intOf s6).toNat)
    case atStart => exact ⟨0, p.length + t.length, Nat.zero_le _, rfl, rfl, by go_num⟩
    case round =>
      obtain ⟨m, k, hm, hkm, rfl, rfl⟩ := hrel
      have HK : Hid (k + m = p.length + t.length) := hkm
      have hk1 : (k : Int) < n := by omega
      have hk2 : p.length ≤ k := by omega
      have hk3 : k = p.length + t.length - m := by omega
      by_cases hlt : m < r
      · have hc := HR1.out m hlt
        rw [← hk3] at hc
        have hk4 : 1 ≤ k := by omega
        clear hkm hk3
        go_wp2
        go_round
        case rel => exact ⟨m + 1, k - 1, by omega, by have := HK.out; omega, by rw [par_succ], by go_num⟩
        case measure => simp [intOf]; omega
      · obtain ⟨x, hc, hx⟩ := HR2.out
        have hmr : m = r := by omega
        subst hmr
        rw [← hk3] at hc
        clear hkm hk3
        rcases HC.out with ⟨hmode, htq⟩ | ⟨hmode, q', hrest, hin'⟩
        · have hpar : (m % 2 == 1) = false := by
            rw [beq_eq_false_iff_ne]; intro h; have := HR3.out; rw [if_pos h, hmode] at this; omega
          rw [hpar]
          have HTQ : Hid (t = q) := htq
          clear htq hmode
          go_wp2
          go_ret
          refine ⟨?_, rfl⟩
          have e1 := HL2.out; have e2 := HL.out; have e3 := HTQ.out
          have e4 := congrArg List.length e3
          have : (p.length : Int) + (1 + t.length) + 1 = pre.length + body.length + 2 := by omega
          simp [this]
        · have hpar : (m % 2 == 1) = true := by
            rw [beq_iff_eq]
            by_cases h : m % 2 = 1
            · exact h
            · have := HR3.out; rw [if_neg h, hmode] at this; omega
          rw [hpar]
          have HRS : Hid (rest = q' ++ 34 :: post) := hrest
          clear hrest hmode
          go_wp2
          go_round
          case rel => exact ⟨p ++ 34 :: t, q', by rw [HDt.out, HRS.out]; simp, hin', by simp; omega⟩
          case measure => simp [intOf]; omega
end Go.Proofs.Qxb6000759a

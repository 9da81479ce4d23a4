/-
  The plain part: parts that are joined by ';'; '/*' in a string; zzHasCommentOpen (11).
-/
import Derived.Test.Qxb6001104aOwn
import Derived.WalkLawsBesides
import Derived.WalkSpells
import Derived.Lib.IndexBytes
import Derived.Below
namespace Go.Proofs.Qxb6001104a
open Go.RowKit

/-- each part with a ';' ahead of it -/
def jl (L : List (List UInt8)) : List UInt8 := (L.map (fun p => 59 :: p)).flatten

theorem jl_append (a b : List (List UInt8)) : jl (a ++ b) = jl a ++ jl b := by simp [jl]
theorem jl_one (p : List UInt8) : jl [p] = 59 :: p := by simp [jl]
theorem jl_len (L : List (List UInt8)) : L.length ≤ (jl L).length := by
  induction L with
  | nil => simp
  | cons p L ih => simp [jl] at ih ⊢; omega

/-- what the loop of declarations holds behind k bytes: the finished parts and the one in hand -/
structure S6 (l : List UInt8) (k : Nat) (parts : List (List UInt8)) (cur : List UInt8) : Prop where
  le : k ≤ l.length
  eq : jl (parts ++ [cur]) = 59 :: l.take k

theorem S6.start (l : List UInt8) : S6 l 0 [] [] := ⟨Nat.zero_le _, by simp [jl]⟩

theorem take_next {l : List UInt8} {k : Nat} {c : UInt8} (h : l[k]? = some c) : k < l.length ∧ l.take (k + 1) = l.take k ++ [c] := by
  obtain ⟨hk, hx⟩ := List.getElem?_eq_some_iff.1 h
  exact ⟨hk, by rw [List.take_succ_eq_append_getElem hk, hx]⟩

theorem S6.write {l : List UInt8} {k : Nat} {parts : List (List UInt8)} {cur : List UInt8} (h : S6 l k parts cur) {c : UInt8} (hc : l[k]? = some c) : S6 l (k + 1) parts (cur ++ [c]) := by
  obtain ⟨h1, h2⟩ := take_next hc
  refine ⟨h1, ?_⟩
  have := h.eq
  rw [jl_append, jl_one] at this ⊢
  rw [h2, show (59 : UInt8) :: (l.take k ++ [c]) = (59 :: l.take k) ++ [c] from rfl, ← this]
  simp

theorem S6.cut {l : List UInt8} {k : Nat} {parts : List (List UInt8)} {cur : List UInt8} (h : S6 l k parts cur) (hc : l[k]? = some 59) : S6 l (k + 1) (parts ++ [cur]) [] := by
  obtain ⟨h1, h2⟩ := take_next hc
  refine ⟨h1, ?_⟩
  rw [jl_append, h.eq, jl_one, h2]
  simp

theorem S6.lens {l : List UInt8} {k : Nat} {parts : List (List UInt8)} {cur : List UInt8} (h : S6 l k parts cur) : parts.length ≤ k ∧ cur.length ≤ k := by
  have e := congrArg List.length h.eq
  have hp := jl_len parts
  have hk := h.le
  rw [jl_append, jl_one, List.length_append] at e
  simp at e
  omega

/-- '/*' stands at k -/
def openAt (s : ByteArray) (k : Nat) : Prop := s.data.toList[k]? = some 47 ∧ s.data.toList[k + 1]? = some 42
def RelO (s : ByteArray) (s3 : Value) : Prop := ∃ k : Nat, k ≤ s.size ∧ s3 = .int .i64 k ∧ ∀ j, j < k → ¬ openAt s j
def PostO (s : ByteArray) (w : World) (e : Ending) (w' : World) : Prop := (∃ b, e = .returned (.bool b) ∧ (b = false → ∀ j, ¬ openAt s j)) ∧ w' = w

theorem openAt_no {s : ByteArray} {k : Nat} (h : k + 1 < s.size) (hx : ¬ (s[k] = 47 ∧ s[k + 1] = 42)) : ¬ openAt s k := by
  rintro ⟨h1, h2⟩
  rw [Lib.data_getElem? s k (by omega)] at h1
  rw [Lib.data_getElem? s (k + 1) h] at h2
  exact hx ⟨Option.some.inj h1, Option.some.inj h2⟩
theorem openAt_end {s : ByteArray} {k : Nat} (h : ¬ k + 1 < s.size) : ¬ openAt s k := by
  rintro ⟨_, h2⟩
  have := (List.getElem?_eq_some_iff.1 h2).1
  rw [← Lib.size_eq] at this
  omega
theorem byte_ne {x c : UInt8} (h : x ≠ c) : ((x.toNat : Int) == (c.toNat : Int)) = false := by
  rw [beq_eq_false_iff_ne]
  intro e
  exact h (UInt8.toNat_inj.1 (by omega))

set_option maxHeartbeats 1000000 in
theorem open_any (s : ByteArray) (w : World) (hs : s.size ≤ 1048576) : Calls Try.prog 11 #[.string s] w (PostO s w) := by
  go_enter Try.func11, Try.ntmps11
  go_wp2
  go_loop [3] (fun s3 => RelO s s3) (fun s3 => s.size - (intOf s3).toNat)
  case atStart => exact ⟨0, Nat.zero_le _, rfl, fun j hj => absurd hj (by omega)⟩
  case round =>
    obtain ⟨k, hk, rfl, hno⟩ := hrel
    have HNO := hid hno
    clear hno
    by_cases hlt : k + 1 < s.size
    · have hlt0 : k < s.size := by omega
      have hlt1 : (k : Int) + 1 < (s.size : Int) := by omega
      by_cases hx : s[k] = 47
      · have hb : ((s[k].toNat : Int) == 47) = true := by rw [hx]; rfl
        by_cases hy : s[k + 1] = 42
        · have hc : ((s[k + 1].toNat : Int) == 42) = true := by rw [hy]; rfl
          clear hx hy
          go_wp2
          go_ret
          exact ⟨⟨true, rfl, fun h => by cases h⟩, rfl⟩
        · have hc : ((s[k + 1].toNat : Int) == 42) = false := byte_ne (c := 42) hy
          have HN := hid (openAt_no hlt (fun h => hy h.2))
          clear hx hy
          go_wp2
          go_round
          case rel => exact ⟨k + 1, by omega, by go_num, fun j hj => by
                        by_cases e : j = k
                        · rw [e]; exact HN.out
                        · exact HNO.out j (by omega)⟩
          case measure => simp [intOf]; omega
      · have hb : ((s[k].toNat : Int) == 47) = false := byte_ne (c := 47) hx
        have HN := hid (openAt_no hlt (fun h => hx h.1))
        clear hx
        go_wp2
        go_round
        case rel => exact ⟨k + 1, by omega, by go_num, fun j hj => by
                      by_cases e : j = k
                      · rw [e]; exact HN.out
                      · exact HNO.out j (by omega)⟩
        case measure => simp [intOf]; omega
    · have hlt1 : ¬ ((k : Int) + 1 < (s.size : Int)) := by omega
      have HF : Hid (∀ j, ¬ openAt s j) := fun j => by
        by_cases e : j < k
        · exact HNO.out j e
        · exact openAt_end (by omega)
      go_wp2
      go_ret
      exact ⟨⟨false, rfl, fun _ => HF.out⟩, rfl⟩
end Go.Proofs.Qxb6001104a

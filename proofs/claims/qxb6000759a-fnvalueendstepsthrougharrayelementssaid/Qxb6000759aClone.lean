/-
  cloneBytes (21), cloneStrings (22), stringsFit (20), zzBytes (26).
-/
import Derived.Test.Qxb6000759aEncHead
import Derived.WalkSpells
namespace Go.Proofs.Qxb6000759a
open Go.RowKit

/-- what a clone comes to -/
def PostCB (w : World) (len : Nat) (e : Ending) (w' : World) : Prop := ∃ ao cap, e = .returned (.slice ao len cap) ∧ BytesAt w'.heap.size w' ao len ∧ Below w.heap.size w w'
def PostCS (w : World) (len : Nat) (e : Ending) (w' : World) : Prop := ∃ ao cap, e = .returned (.slice ao len cap) ∧ StrsAt w'.heap.size w' ao len ∧ Below w.heap.size w w'

def AllU8 (xs : List Value) : Prop := ∀ v ∈ xs, ∃ z : Int, v = .int .u8 z ∧ 0 ≤ z ∧ z < 256
def AllStr (xs : List Value) : Prop := ∀ v ∈ xs, ∃ s : ByteArray, v = .string s ∧ s.size ≤ 1048576

theorem made_mem {z v : Value} {n : Nat} (h : v ∈ (madeCells #[z] n).toList) : v = z := by
  rw [toList_madeCells_one] at h
  exact (List.mem_replicate.1 h).2

theorem row_made {e : TypeId} {B : Nat} {w w' : World} {n : Nat} {xs : List Value} (h : w'.ownsRow B e 1 (.slice (some ⟨w.heap.size, 0, none⟩) n n) n xs) (hg : w.grownBy w' none) (hB : B ≤ w.heap.size) : Row e B w' w.heap.size n n xs :=
  ⟨h, by have := hg.size; omega⟩

theorem bytesAt_row {B : Nat} {w : World} {g n c : Nat} {xs : List Value} (h : Row 5 B w g n c xs) (hx : AllU8 xs) : BytesAt w.heap.size w (some ⟨g, 0, none⟩) n := by
  intro i hi
  have hl := h.len
  obtain ⟨z, hz, h0, h1⟩ := hx (xs[i]'(by omega)) (List.getElem_mem _)
  exact ⟨g, 0, z, rfl, h.lt.2, by rw [Nat.zero_add, h.cell i hi, List.getElem?_eq_getElem (by omega), hz], h0, h1⟩
theorem strsAt_row {B : Nat} {w : World} {g n c : Nat} {xs : List Value} (h : Row 9 B w g n c xs) (hx : AllStr xs) : StrsAt w.heap.size w (some ⟨g, 0, none⟩) n := by
  intro i hi
  have hl := h.len
  obtain ⟨s, hs, h0⟩ := hx (xs[i]'(by omega)) (List.getElem_mem _)
  exact ⟨g, 0, s, rfl, h.lt.2, by rw [Nat.zero_add, h.cell i hi, List.getElem?_eq_getElem (by omega), hs], h0⟩

theorem Row.store {e : TypeId} {B : Nat} {w : World} {g n c : Nat} {xs : List Value} (h : Row e B w g n c xs) (j : Nat) (u : Value) : Row e B (w.setCell ⟨g, j, none⟩ u) g n c (xs.set j u) :=
  ⟨(h.1.stored j u).1, by simp; exact h.2⟩

theorem allU8_set {xs : List Value} (h : AllU8 xs) (j : Nat) (z : Int) (h0 : 0 ≤ z) (h1 : z < 256) : AllU8 (xs.set j (.int .u8 z)) := by
  intro v hv
  rcases List.mem_or_eq_of_mem_set hv with h' | h'
  · exact h v h'
  · exact ⟨z, h', h0, h1⟩
theorem allStr_set {xs : List Value} (h : AllStr xs) (j : Nat) (s : ByteArray) (h0 : s.size ≤ 1048576) : AllStr (xs.set j (.string s)) := by
  intro v hv
  rcases List.mem_or_eq_of_mem_set hv with h' | h'
  · exact h v h'
  · exact ⟨s, h', h0⟩

set_option maxHeartbeats 1000000 in
theorem cloneBytes_any (ao : Option Addr) (len cap : Nat) (w : World) (hb : BytesAt w.heap.size w ao len) (hnil : ao = none → len = 0) (hlen : len ≤ 1048576) :
    Calls Try.prog 21 #[.slice ao len cap] w (PostCB w len) := by
  have keq := fun (w : World) (a : Option Addr) (n c n' c' : Nat) => Lib.run_eql_slice_nil (P := Try.prog) w 24 5 a n c n' c' Try.underlying24
  cases ao with
  | none =>
    have h0 := hnil rfl
    subst h0
    clear hnil hb
    go_enter Try.func21, Try.ntmps21
    go_wp2
    go_ret
    exact ⟨none, 0, rfl, fun i hi => absurd hi (by omega), Below.refl _ _⟩
  | some x =>
    have HB := hid hb
    clear hb hnil
    obtain ⟨i0, hi, hz0, hz1, hz2⟩ := info_parts Try.info5
    go_enter Try.func21, Try.ntmps21
    go_wp2_with (at_make; refine wpList_make_full _ (by rfl) _ _ 24 (by rfl) w.heap.size 5 i0 (.int .u8 0) 1 Try.underlying24 hi hz0 hz1 .i64 .i64 _ _ len (by rfl) (by rfl) (by rfl) (by rfl) (by rw [hz2]; omega) (by unfold maxLen; omega) (Nat.le_refl _) ?_; intro w1 hown1 hgr1)
    go_loopw [4] (fun s4 wr => ∃ (k : Nat) (xs : List Value), k ≤ len ∧ s4 = .int .i64 k ∧ Row 5 w.heap.size wr w.heap.size len len xs ∧ AllU8 xs ∧ Below w.heap.size w wr) (fun s4 _ => len - (intOf s4).toNat)
    case atStart => exact ⟨0, _, Nat.zero_le _, rfl, row_made hown1 hgr1 (Nat.le_refl _), fun v hv => ⟨0, by rw [Nat.mul_one] at hv; exact made_mem hv, by omega, by omega⟩, (Below.refl _ _).grown hgr1 (Nat.le_refl _) (fun k hk => by cases hk)⟩
    case round =>
      obtain ⟨k, xs, hk, rfl, hrow, hall, hbel⟩ := hrel
      have HR := hid hrow
      have HA := hid hall
      have HBL := hid hbel
      clear hrow hall hbel hown1 hgr1 hi hz0 hz1 hz2 keq
      by_cases hlt : k < len
      · obtain ⟨b, o, z, hx, hbB, hc, h0, h1⟩ := HB.out k hlt
        obtain rfl : x = ⟨b, o, none⟩ := by simpa using hx
        rw [← HBL.out.cell (p := ⟨b, o + k, none⟩) hbB] at hc
        have hc2 : ∃ v, wr.cell? ⟨w.heap.size, k, none⟩ = some v := ⟨xs[k]'(by have := HR.out.len; omega), by rw [HR.out.cell k hlt, List.getElem?_eq_getElem]⟩
        obtain ⟨v2, hc2⟩ := hc2
        have hf := HR.out.free k
        clear hx
        go_wp2
        go_roundw
        case rel => exact ⟨k + 1, _, hlt, by go_num, HR.out.store k _, allU8_set HA.out k z h0 h1, HBL.out.setCell (by simp) _⟩
        case measure => simp [intOf]; omega
      · go_wp2
        go_ret
        exact ⟨_, len, rfl, bytesAt_row HR.out HA.out, HBL.out⟩
set_option maxHeartbeats 1000000 in
theorem cloneStrings_any (ao : Option Addr) (len cap : Nat) (w : World) (hb : StrsAt w.heap.size w ao len) (hnil : ao = none → len = 0) (hlen : len ≤ 1048576) :
    Calls Try.prog 22 #[.slice ao len cap] w (PostCS w len) := by
  have keq := fun (w : World) (a : Option Addr) (n c n' c' : Nat) => Lib.run_eql_slice_nil (P := Try.prog) w 31 9 a n c n' c' Try.underlying31
  cases ao with
  | none =>
    have h0 := hnil rfl
    subst h0
    clear hnil hb
    go_enter Try.func22, Try.ntmps22
    go_wp2
    go_ret
    exact ⟨none, 0, rfl, fun i hi => absurd hi (by omega), Below.refl _ _⟩
  | some x =>
    have HB := hid hb
    clear hb hnil
    obtain ⟨i0, hi, hz0, hz1, hz2⟩ := info_parts Try.info9
    go_enter Try.func22, Try.ntmps22
    go_wp2_with (at_make; refine wpList_make_full _ (by rfl) _ _ 31 (by rfl) w.heap.size 9 i0 (.string ByteArray.empty) 1 Try.underlying31 hi hz0 hz1 .i64 .i64 _ _ len (by rfl) (by rfl) (by rfl) (by rfl) (by rw [hz2]; omega) (by unfold maxLen; omega) (Nat.le_refl _) ?_; intro w1 hown1 hgr1)
    go_loopw [4] (fun s4 wr => ∃ (k : Nat) (xs : List Value), k ≤ len ∧ s4 = .int .i64 k ∧ Row 9 w.heap.size wr w.heap.size len len xs ∧ AllStr xs ∧ Below w.heap.size w wr) (fun s4 _ => len - (intOf s4).toNat)
    case atStart => exact ⟨0, _, Nat.zero_le _, rfl, row_made hown1 hgr1 (Nat.le_refl _), fun v hv => ⟨ByteArray.empty, by rw [Nat.mul_one] at hv; exact made_mem hv, by decide⟩, (Below.refl _ _).grown hgr1 (Nat.le_refl _) (fun k hk => by cases hk)⟩
    case round =>
      obtain ⟨k, xs, hk, rfl, hrow, hall, hbel⟩ := hrel
      have HR := hid hrow
      have HA := hid hall
      have HBL := hid hbel
      clear hrow hall hbel hown1 hgr1 hi hz0 hz1 hz2 keq
      by_cases hlt : k < len
      · obtain ⟨b, o, z, hx, hbB, hc, h0⟩ := HB.out k hlt
        obtain rfl : x = ⟨b, o, none⟩ := by simpa using hx
        rw [← HBL.out.cell (p := ⟨b, o + k, none⟩) hbB] at hc
        have hc2 : ∃ v, wr.cell? ⟨w.heap.size, k, none⟩ = some v := ⟨xs[k]'(by have := HR.out.len; omega), by rw [HR.out.cell k hlt, List.getElem?_eq_getElem]⟩
        obtain ⟨v2, hc2⟩ := hc2
        have hf := HR.out.free k
        clear hx
        go_wp2
        go_roundw
        case rel => exact ⟨k + 1, _, hlt, by go_num, HR.out.store k _, allStr_set HA.out k z h0, HBL.out.setCell (by simp) _⟩
        case measure => simp [intOf]; omega
      · go_wp2
        go_ret
        exact ⟨_, len, rfl, strsAt_row HR.out HA.out, HBL.out⟩

/-- strings of whatever length that came in -/
def StrsIn (w : World) (ao : Option Addr) (len : Nat) : Prop := ∀ i, i < len → ∃ b o s, ao = some ⟨b, o, none⟩ ∧ b < w.heap.size ∧ w.cell? ⟨b, o + i, none⟩ = some (.string s) ∧ s.size ≤ maxLen

theorem strsIn_of {w : World} {ao : Option Addr} {len : Nat} (h : StrsAt w.heap.size w ao len) : StrsIn w ao len := fun i hi => by
  obtain ⟨b, o, s, h1, h2, h3, h4⟩ := h i hi
  exact ⟨b, o, s, h1, h2, h3, by unfold maxLen; omega⟩

/-- a bool, and nothing turned -/
def PostFit (w : World) (e : Ending) (w' : World) : Prop := (∃ b, e = .returned (.bool b)) ∧ w' = w

set_option maxHeartbeats 1000000 in
theorem fit_any (base : Int) (ao : Option Addr) (len cap : Nat) (w : World) (hs : StrsIn w ao len) (hb0 : 0 ≤ base) (hb1 : base ≤ 1048576) (hlen : len ≤ 1048576) :
    Calls Try.prog 20 #[.int .i64 base, .slice ao len cap] w (PostFit w) := by
  have HS := hid hs
  clear hs
  have h0 : ¬ (1048576 : Int) < (len : Int) := by omega
  by_cases hbig : (1048576 : Int) < base + 16 * (len : Int)
  · go_enter Try.func20, Try.ntmps20
    go_wp2
    go_ret
    exact ⟨⟨_, rfl⟩, rfl⟩
  · go_enter Try.func20, Try.ntmps20
    go_wp2
    go_loop [5, 6] (fun s5 s6 => ∃ (k : Nat) (t : Int), k ≤ len ∧ s6 = .int .i64 k ∧ s5 = .int .i64 t ∧ 0 ≤ t ∧ t ≤ 1048576) (fun _ s6 => len - (intOf s6).toNat)
    case atStart => exact ⟨0, _, Nat.zero_le _, rfl, rfl, by omega, by omega⟩
    case round =>
      obtain ⟨k, t, hk, rfl, rfl, ht0, ht1⟩ := hrel
      by_cases hlt : k < len
      · obtain ⟨b, o, s, rfl, hbB, hc, hsz⟩ := HS.out k hlt
        unfold maxLen at hsz
        by_cases hgt : (1048576 : Int) - t < (s.size : Int)
        · go_wp2
          go_ret
          exact ⟨⟨_, rfl⟩, rfl⟩
        · go_wp2
          go_round
          case rel => exact ⟨k + 1, t + s.size, hlt, by go_num, rfl, by omega, by omega⟩
          case measure => simp [intOf]; omega
      · go_wp2
        go_ret
        exact ⟨⟨_, rfl⟩, rfl⟩

/-- what zzBytes comes to -/
def PostZ (w : World) (la lb ls : Nat) (so : Option Addr) (e : Ending) (w' : World) : Prop :=
  (∃ b, e = .returned (.bool b) ∧ (b = true → la ≤ 1048576 ∧ lb ≤ 1048576 ∧ ls ≤ 1048576 ∧ StrsAt w.heap.size w so ls)) ∧ w' = w

set_option maxHeartbeats 2000000 in
theorem zz_any (aa ab so : Option Addr) (la ca lb cb ls cs : Nat) (w : World) (hs : StrsIn w so ls) (hla : la ≤ maxLen) (hlb : lb ≤ maxLen) (hls : ls ≤ maxLen) :
    Calls Try.prog 26 #[.slice aa la ca, .slice ab lb cb, .slice so ls cs] w (PostZ w la lb ls so) := by
  have HS := hid hs
  clear hs
  unfold maxLen at hla hlb hls
  by_cases h1 : (1048576 : Int) < (la : Int)
  · go_enter Try.func26, Try.ntmps26
    go_wp2
    go_ret
    exact ⟨⟨_, rfl, fun h => by cases h⟩, rfl⟩
  · by_cases h2 : (1048576 : Int) < (lb : Int)
    · go_enter Try.func26, Try.ntmps26
      go_wp2
      go_ret
      exact ⟨⟨_, rfl, fun h => by cases h⟩, rfl⟩
    · by_cases h3 : (1048576 : Int) < (la : Int) + (lb : Int)
      · go_enter Try.func26, Try.ntmps26
        go_wp2
        go_ret
        exact ⟨⟨_, rfl, fun h => by cases h⟩, rfl⟩
      · by_cases h4 : (1048576 : Int) < (ls : Int)
        · go_enter Try.func26, Try.ntmps26
          go_wp2
          go_ret
          exact ⟨⟨_, rfl, fun h => by cases h⟩, rfl⟩
        · by_cases h5 : (1048576 : Int) < (la : Int) + (lb : Int) + (ls : Int)
          · go_enter Try.func26, Try.ntmps26
            go_wp2
            go_ret
            exact ⟨⟨_, rfl, fun h => by cases h⟩, rfl⟩
          · go_enter Try.func26, Try.ntmps26
            go_wp2
            go_loop [7, 8] (fun s7 s8 => ∃ (k : Nat) (t : Int), k ≤ ls ∧ s8 = .int .i64 k ∧ s7 = .int .i64 t ∧ 0 ≤ t ∧ t ≤ 1048576 ∧ StrsAt w.heap.size w so k) (fun _ s8 => ls - (intOf s8).toNat)
            case atStart => exact ⟨0, _, Nat.zero_le _, rfl, rfl, by omega, by omega, fun i hi => absurd hi (by omega)⟩
            case round =>
              obtain ⟨k, t, hk, rfl, rfl, ht0, ht1, hst⟩ := hrel
              have HST := hid hst
              clear hst
              by_cases hlt : k < ls
              · obtain ⟨b, o, s, hso, hbB, hc, hsz⟩ := HS.out k hlt
                subst hso
                unfold maxLen at hsz
                by_cases hgt : (1048576 : Int) < (s.size : Int)
                · go_wp2
                  go_ret
                  exact ⟨⟨_, rfl, fun h => by cases h⟩, rfl⟩
                · by_cases hgt2 : (1048576 : Int) < t + (s.size : Int)
                  · go_wp2
                    go_ret
                    exact ⟨⟨_, rfl, fun h => by cases h⟩, rfl⟩
                  · have HN : Hid (StrsAt w.heap.size w (some ⟨b, o, none⟩) (k + 1)) := fun i hi => by
                      by_cases e : i = k
                      · subst e; exact ⟨b, o, s, rfl, hbB, hc, by omega⟩
                      · exact HST.out i (by omega)
                    go_wp2
                    go_round
                    case rel => exact ⟨k + 1, t + s.size, hlt, by go_num, rfl, by omega, by omega, HN.out⟩
                    case measure => simp [intOf]; omega
              · have hkl : k = ls := by omega
                have HST2 : Hid (StrsAt w.heap.size w so ls) := by rw [← hkl]; exact HST
                clear hkl
                go_wp2
                go_ret
                exact ⟨⟨_, rfl, fun _ => ⟨by omega, by omega, by omega, HST2.out⟩⟩, rfl⟩
end Go.Proofs.Qxb6000759a

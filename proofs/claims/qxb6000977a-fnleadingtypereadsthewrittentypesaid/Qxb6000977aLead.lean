/-
  leadingType (25), its callees, zzHasQuote (10); append(out, rest...).
-/
import Derived.Test.Qxb6000977aOwn
import Derived.OwnWalk
import Derived.Laws.Externs
import Derived.Laws.BytesArg
import Derived.Lib.BytesEntry
import Derived.WalkLawsBesides
import Derived.WalkSpells
import Derived.Lib.IndexBytes
import Derived.Lib.SlBytesConst
namespace Go.Proofs.Qxb6000977a
open Go.RowKit

set_option maxHeartbeats 1000000 in
/-- append(out, rest...), rest a slice that came in: nil, empty or not -/
theorem app_any {w : World} {ops : Array Oper} {rest : List Oper} {o : Oper} {a : Act} {Q : Exit → Act → World → Prop} (hgd : o.guard = none) (s x : Operand)
    (ho : o.op = .call { callee := .builtin .append, args := #[s, x], argTypes := #[22, 22] })
    {B g n c : Nat} {xs : List Value} (hrow : Row 5 B w g n c xs) (hs : a.eval s = .slice (some ⟨g, 0, none⟩) n c)
    {ao : Option Addr} {m d : Nat} {v : List Int} (hx : a.eval x = .slice ao m d) (hm : v.length = m) (hnone : ao = none → m = 0 ∧ d = 0)
    (hv : ∀ ad, ao = some ad → ∀ j, j < m → w.cell? (ad.add j) = some (.int .u8 (v.getD j 0))) (hfit : n + m ≤ 100000000000000)
    (h : ∀ g' c' w', Row 5 B w' g' (n + m) c' (xs ++ v.map (Value.int .u8)) → GrewB w w' g g' → wpList Try.prog ops Q rest (a.put o.dst (.slice (some ⟨g', 0, none⟩) (n + m) c')) w') :
    wpList Try.prog ops Q (o :: rest) a w := by
  obtain ⟨i0, hi, hz0, hz1, hz2⟩ := info_parts Try.info5
  have hr := hrow.lt
  have hcells : ∀ ad, ao = some ad → ∀ j u, (v.map (Value.int .u8))[j]? = some u → w.cell? (ad.add j) = some u := fun ad had j u hj => by
    have hlt : j < v.length := by
      have := (List.getElem?_eq_some_iff.1 hj).1
      simpa using this
    rw [hv ad had j (by omega)]
    rw [List.getElem?_map, List.getElem?_eq_getElem hlt] at hj
    simp at hj
    rw [← hj]
    simp [List.getElem?_eq_getElem hlt]
  by_cases hm0 : 0 < m
  · cases ao with
    | none => have := (hnone rfl).1; omega
    | some ad =>
      refine wpList_append_lies w hgd s x 22 ho B 5 i0 (.int .u8 0) 1 1 Try.underlying22 hi hz0 hz1 hz2 rfl (by omega) _ n xs hs hrow.1 ad m d (v.map (Value.int .u8)) hx (by simp [hm])
        (hcells ad rfl) (ints_oneCell _ _) hm0 (by unfold maxLen; omega) (by omega) hrow.2 w.heap.size rfl ?_
      intro g' cap w' hown hgrow hat hlt
      have hgb : GrewB w w' g g' := ⟨hgrow, by
        rcases hat with e1 | e1
        · left; simpa [Value.ownBlock] using e1.symm
        · right; omega⟩
      exact h g' cap w' ⟨hown, by have := hgb.grown.size; have := hrow.2; omega⟩ hgb
  · have hm1 : m = 0 := by omega
    refine wpList_append_fits_any w hgd s x 22 ho B 5 i0 1 Try.underlying22 hi hz1 g n c xs hs hrow.1 ao m d (v.map (Value.int .u8)) hx (by simp [hm]) hnone hcells (ints_oneCell _ _) (by have := hrow.cap.1; omega) ?_
    intro w' hown hgrow
    exact h g c w' ⟨hown, by have := hgrow.size; have := hrow.2; omega⟩ ⟨hgrow, .inl rfl⟩

/-- the bytes D lie in block b from its head on -/
def Mem (w : World) (b : Nat) (D : List Int) : Prop := ∀ k, k < D.length → w.cell? ⟨b, k, none⟩ = some (.int .u8 (D.getD k 0))

theorem mem_row {B : Nat} {w : World} {g n c : Nat} {D : List Int} (h : Row 5 B w g n c (D.map (Value.int .u8))) : Mem w g D := fun k hk => by
  have hl := h.len
  simp at hl
  rw [h.cell k (by omega)]
  simp [List.getElem?_eq_getElem hk]

theorem indexByte_first (t rest : List Int) (h34 : 34 ∉ t) (hr : ∀ x ∈ t, 0 ≤ x ∧ x < 256) : Lib.indexByte (Lib.bytesOf (t ++ 34 :: rest)) 34 = t.length := by
  induction t with
  | nil => simp [Lib.bytesOf, Lib.indexByte]
  | cons x t ih =>
    simp only [List.mem_cons, not_or] at h34
    have hx := hr x (by simp)
    have ih' := ih h34.2 (fun y hy => hr y (by simp [hy]))
    simp only [Lib.bytesOf, List.cons_append, List.map_cons] at ih' ⊢
    unfold Lib.indexByte
    have hne : (UInt8.ofNat x.toNat == 34) = false := by
      rw [beq_eq_false_iff_ne]
      intro e
      have := congrArg UInt8.toNat e
      simp at this
      omega
    rw [hne, ih']
    simp

set_option maxHeartbeats 2000000 in
theorem indexByte_any (b o n c : Nat) (t rest : List Int) (w : World) (hn : (t ++ 34 :: rest).length = n) (h34 : 34 ∉ t) (hr : ∀ x ∈ t, 0 ≤ x ∧ x < 256)
    (hc : ∀ i, i < n → w.cell? ⟨b, o + i, none⟩ = some (.int .u8 ((t ++ 34 :: rest).getD i 0))) :
    Calls Try.prog 29 #[.slice (some ⟨b, o, none⟩) n c, .int .u8 34] w fun e w' => e = .returned (.int .i64 t.length) ∧ w' = w := by
  have hx : Lib.indexByte (Lib.bytesOf (t ++ 34 :: rest)) 34 = t.length := indexByte_first t rest h34 hr
  go_enter Try.func29, Try.ntmps29
  go_wp2
  rw [run_callFunc_extern Try.func31 (by kernel_rfl) (by kernel_rfl) (by kernel_rfl) (e := Extern.BytealgIndexByte.indexByte) (by kernel_rfl), Lib.run_indexByteSlice w b o n c _ hn hc 34]
  simp only [Result.andThen]
  rw [Oper.upon_value]
  go_wp2
  go_ret
  exact ⟨rfl, rfl⟩

theorem getD_mid (p l : List Int) (k : Nat) : (p ++ l).getD (p.length + k) 0 = l.getD k 0 := by
  rw [List.getD_eq_getElem?_getD, List.getD_eq_getElem?_getD, List.getElem?_append_right (by omega)]
  congr 2
  omega
theorem getD_head (l r : List Int) (k : Nat) (h : k < l.length) : (l ++ r).getD k 0 = l.getD k 0 := by
  rw [List.getD_eq_getElem?_getD, List.getD_eq_getElem?_getD, List.getElem?_append_left h]

def leadI : List Int := [123, 34, 116, 121, 112, 101, 34, 58, 34]

set_option maxHeartbeats 2000000 in
theorem hasPrefix_any (g n c b2 : Nat) (X : ByteArray) (w : World) (hn : 10 ≤ n) (hc : n ≤ c) (h1 : (convert 22 9 (.slice (some ⟨g, 0, none⟩) 9 c)).run Try.prog w = .ok (.string X) w)
    (h2 : (convert 22 9 (.slice (some ⟨b2, 0, none⟩) 9 9)).run Try.prog w = .ok (.string X) w) :
    Calls Try.prog 28 #[.slice (some ⟨g, 0, none⟩) n c, .slice (some ⟨b2, 0, none⟩) 9 9] w fun e w' => e = .returned (.bool true) ∧ w' = w := by
  have hn1 : (9 : Int) ≤ (n : Int) := by omega
  have hn2 : (9 : Int) ≤ (c : Int) := by omega
  go_enter Try.func28, Try.ntmps28
  go_wp2_with go_in
  go_ret
  exact ⟨rfl, rfl⟩

theorem lead_cell : ∀ k, k < leadI.length → (#[.int .u8 123, .int .u8 34, .int .u8 116, .int .u8 121, .int .u8 112, .int .u8 101, .int .u8 34, .int .u8 58, .int .u8 34] : Array Value)[k]? = some (.int .u8 (leadI.getD k 0)) := by
  intro k hk
  match k, hk with
  | 0, _ => rfl
  | 1, _ => rfl
  | 2, _ => rfl
  | 3, _ => rfl
  | 4, _ => rfl
  | 5, _ => rfl
  | 6, _ => rfl
  | 7, _ => rfl
  | 8, _ => rfl
  | k + 9, h => exact absurd h (by simp [leadI])

def PostL (T : ByteArray) (w : World) (e : Ending) (w' : World) : Prop := e = .returned (.tuple #[.string T, .bool true]) ∧ Below w.heap.size w w'

set_option maxRecDepth 100000 in
set_option maxHeartbeats 2000000 in
theorem leading_any (g n c : Nat) (t rest : List Int) (w : World) (hn : (leadI ++ (t ++ 34 :: rest)).length = n) (hnc : n ≤ c) (hm : Mem w g (leadI ++ (t ++ 34 :: rest))) (h34 : 34 ∉ t) (hr : ∀ x ∈ t, 0 ≤ x ∧ x < 256) :
    Calls Try.prog 25 #[.slice (some ⟨g, 0, none⟩) n c] w (PostL (strOfNums t) w) := by
  have hlen : n = t.length + rest.length + 10 := by rw [← hn]; simp [leadI]; omega
  obtain ⟨W, hW⟩ : ∃ W, W = w.alloc (.cells #[.int .u8 123, .int .u8 34, .int .u8 116, .int .u8 121, .int .u8 112, .int .u8 101, .int .u8 34, .int .u8 58, .int .u8 34] 5 (9, 10)) := ⟨_, rfl⟩
  have hmW : Mem W g (leadI ++ (t ++ 34 :: rest)) := fun k hk => by
    have := hm k hk
    rw [hW]
    exact Lib.cell?_alloc_marked _ this
  have hmL : Mem W w.heap.size leadI := fun k hk => by
    rw [hW, World.cell?_alloc_mark]
    exact lead_cell k hk
  have HP : Hid (Calls Try.prog 28 #[.slice (some ⟨g, 0, none⟩) n c, .slice (some ⟨w.heap.size, 0, none⟩) 9 9] W fun e w' => e = .returned (.bool true) ∧ w' = W) := by
    refine hasPrefix_any g n c w.heap.size (strOfNums leadI) W (by omega) hnc ?_ ?_
    · exact run_convert_bytes_arg W 22 5 Try.underlying22 Try.underlying5 g 0 9 c leadI rfl (fun i hi => by
        rw [Nat.zero_add, hmW i (by rw [hn]; omega), getD_head _ _ _ (by simp [leadI]; omega)]) 9 Try.underlying9
    · exact run_convert_bytes_arg W 22 5 Try.underlying22 Try.underlying5 w.heap.size 0 9 9 leadI rfl (fun i hi => by
        rw [Nat.zero_add, hmL i (by simp [leadI]; omega)]) 9 Try.underlying9
  have HI : Hid (Calls Try.prog 29 #[.slice (some ⟨g, 9, none⟩) (n - 9) (c - 9), .int .u8 34] W fun e w' => e = .returned (.int .i64 t.length) ∧ w' = W) :=
    indexByte_any g 9 (n - 9) (c - 9) t rest W (by simp; omega) h34 hr (fun i hi => by
      rw [hmW (9 + i) (by rw [hn]; omega), show (9 : Nat) + i = leadI.length + i from rfl, getD_mid])
  have kc : (convert 22 9 (.slice (some ⟨g, 9, none⟩) t.length (c - 9))).run Try.prog W = .ok (.string (strOfNums t)) W :=
    run_convert_bytes_arg W 22 5 Try.underlying22 Try.underlying5 g 9 t.length (c - 9) t rfl (fun i hi => by
      rw [hmW (9 + i) (by rw [hn]; omega), show (9 : Nat) + i = leadI.length + i from rfl, getD_mid, getD_head _ _ _ hi]) 9 Try.underlying9
  have HB : Hid (Below w.heap.size w W) := by rw [hW]; exact (Below.refl _ _).alloc (Nat.le_refl _) _
  have h1 : (9 : Int) ≤ (n : Int) := by omega
  have h2 : (n : Int) ≤ (c : Int) := by omega
  have h3 : ¬ c = 9 := by omega
  have h4 : ((t.length : Nat) : Int) ≤ ((c - 9 : Nat) : Int) := by omega
  have h5 : (9 : Int) ≤ (c : Int) := by omega
  have HW := hid hW
  have HLEN := hid hlen
  have ht0 : t.length ≤ n := by omega
  clear hW hmW hmL hm hn hr h34 hlen
  generalize t.length = tl at *
  have kb := Lib.run_convert_bytes_const (P := Try.prog) w 22 5 #[.int .u8 123, .int .u8 34, .int .u8 116, .int .u8 121, .int .u8 112, .int .u8 101, .int .u8 34, .int .u8 58, .int .u8 34] 9 9 Try.underlying22 Try.underlying5
  go_enter Try.func25, Try.ntmps25
  go_wp2_with fail
  rw [← HW.out]
  refine HP.out.mono ?_
  rintro e w' ⟨rfl, rfl⟩
  go_wp2_with fail
  refine HI.out.mono ?_
  rintro e w' ⟨rfl, rfl⟩
  go_wp2
  go_ret2
  exact ⟨rfl, HB.out⟩

theorem door11 (g n c : Nat) (T : ByteArray) (w : World) (h : Calls Try.prog 25 #[.slice (some ⟨g, 0, none⟩) n c] w (PostL T w)) : Calls Try.prog 11 #[.slice (some ⟨g, 0, none⟩) n c] w (PostL T w) := by
  have H := hid h
  clear h
  go_enter Try.func11, Try.ntmps11
  go_wp2_with fail
  refine H.out.mono ?_
  rintro e w' ⟨rfl, hw⟩
  have HW := hid hw
  clear hw
  go_wp2
  go_ret2
  exact ⟨rfl, HW.out⟩

def hasQ (s : ByteArray) : Bool := decide (34 ∈ s.data.toList)

theorem hasQ_at {s : ByteArray} {k : Nat} (h : k < s.size) (hx : s[k] = 34) : hasQ s = true := by
  have hxl := Lib.data_getElem? s k h
  unfold hasQ
  rw [decide_eq_true_iff, ← hx, ← (List.getElem?_eq_some_iff.1 hxl).2]
  exact List.getElem_mem _
theorem hasQ_step {s : ByteArray} {k : Nat} (h : k < s.size) (hx : s[k] ≠ 34) (hno : 34 ∉ s.data.toList.take k) : 34 ∉ s.data.toList.take (k + 1) := by
  have hxl := Lib.data_getElem? s k h
  rw [List.take_succ_eq_append_getElem (List.getElem?_eq_some_iff.1 hxl).1, (List.getElem?_eq_some_iff.1 hxl).2, List.mem_append]
  rintro (h | h)
  · exact hno h
  · exact hx (List.mem_singleton.1 h).symm
theorem hasQ_end {s : ByteArray} {k : Nat} (h : ¬ k < s.size) (hno : 34 ∉ s.data.toList.take k) : hasQ s = false := by
  rw [List.take_of_length_le (by rw [← Lib.size_eq]; omega)] at hno
  unfold hasQ
  exact decide_eq_false hno

def RelQ (s : ByteArray) (s3 : Value) : Prop := ∃ k : Nat, k ≤ s.size ∧ s3 = .int .i64 k ∧ 34 ∉ s.data.toList.take k

set_option maxHeartbeats 1000000 in
theorem quote_any (s : ByteArray) (w : World) (hs : s.size ≤ 1048576) : Calls Try.prog 10 #[.string s] w fun e w' => e = .returned (.bool (hasQ s)) ∧ w' = w := by
  go_enter Try.func10, Try.ntmps10
  go_wp2
  go_loop [3] (fun s3 => RelQ s s3) (fun s3 => s.size - (intOf s3).toNat)
  case atStart => exact ⟨0, Nat.zero_le _, rfl, by simp⟩
  case round =>
    obtain ⟨k, hk, rfl, hno⟩ := hrel
    have HNO := hid hno
    clear hno
    by_cases hlt : k < s.size
    · by_cases hx : s[k] = 34
      · have hb : ((s[k].toNat : Int) == 34) = true := by rw [hx]; rfl
        have HD := hid (hasQ_at hlt hx)
        clear hx
        go_wp2
        go_ret
        refine ⟨?_, rfl⟩
        rw [HD.out]
        rfl
      · have hb : ((s[k].toNat : Int) == 34) = false := by
          rw [beq_eq_false_iff_ne]
          intro e
          exact hx (UInt8.toNat_inj.1 (by have : (34 : UInt8).toNat = 34 := rfl; omega))
        have HN := hid (hasQ_step hlt hx HNO.out)
        clear hx
        go_wp2
        go_round
        case rel => exact ⟨k + 1, by omega, by go_num, HN.out⟩
        case measure => simp [intOf]; omega
    · have HD := hid (hasQ_end hlt HNO.out)
      go_wp2
      go_ret
      refine ⟨?_, rfl⟩
      rw [HD.out]
      rfl
end Go.Proofs.Qxb6000977a

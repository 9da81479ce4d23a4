/-
  declarations (22): the loop, where no '/*' stands.
-/
import Derived.Test.Qxb6001104aPlain
import Derived.Test.Qxb6001104aBuild
import Derived.Deep.DeepCutAuto
import Derived.Deep.CutBlock
import Derived.Lib.Strings
namespace Go.Proofs.Qxb6001104a
open Go.RowKit

theorem Try.info9 : (Try.prog.info? 9).map (fun i => (i.zero, i.size, i.bytes)) = some (some (.string ByteArray.empty), 1, 16) := by kernel_rfl

def str (p : List UInt8) : Value := .string ⟨p.toArray⟩

theorem own_kept {B b n : Nat} {w w' : World} {v : Value} {xs : List Value} {l : List UInt8} (h : w.ownsRow B 9 1 v n xs) (hb : Bld B b l w) (hk : Kept b w w') : w'.ownsRow B 9 1 v n xs := by
  obtain ⟨p, v0, hb0⟩ : ∃ p v0, w.heap[b]? = some (.cells #[p, v0] 41 (0, 0)) := by
    rcases hb with ⟨_, v0, h0, _⟩ | ⟨_, v0, h0, _⟩
    · exact ⟨_, _, h0⟩
    · exact ⟨_, _, h0⟩
  refine ⟨h.1, ?_⟩
  rcases h.2 with h2 | ⟨g, cap, cur, hv, h1, h2, h3⟩
  · exact .inl h2
  · refine .inr ⟨g, cap, cur, hv, h1, hk g _ h2 ?_ ?_, h3⟩
    · intro e
      injection e with e
      subst e
      rw [h2] at hb0
      injection hb0 with hb0
      injection hb0 with _ ht _
      exact absurd ht (by decide)
    · intro c fz e
      injection e with _ ht _
      exact absurd ht (by decide)

theorem bld_heap {B b : Nat} {l : List UInt8} {w : World} (hb : Bld B b l w) : ∃ p v0, w.heap[b]? = some (.cells #[p, v0] 41 (0, 0)) := by
  rcases hb with ⟨_, v0, h0, _⟩ | ⟨_, v0, h0, _⟩
  · exact ⟨_, _, h0⟩
  · exact ⟨_, _, h0⟩

theorem own_ne {B b n : Nat} {w : World} {v p v0 : Value} {xs : List Value} (h : w.ownsRow B 9 1 v n xs) (hb : w.heap[b]? = some (.cells #[p, v0] 41 (0, 0))) : v.ownBlock ≠ some b := by
  rcases h.2 with ⟨rfl, _⟩ | ⟨g, cap, cur, rfl, h1, h2, h3⟩
  · simp [Value.ownBlock]
  · intro e
    simp only [Value.ownBlock, Option.some.injEq] at e
    subst e
    rw [h2] at hb
    injection hb with hb
    injection hb with _ ht _
    exact absurd ht (by decide)

set_option maxHeartbeats 1000000 in
/-- append(all, y): y has just been laid in a block of its own -/
theorem app_part {w : World} {ops : Array Oper} {rest : List Oper} {o : Oper} {a : Act} {Q : Exit → Act → World → Prop} (hgd : o.guard = none) (s x : Operand)
    (ho : o.op = .call { callee := .builtin .append, args := #[s, x], argTypes := #[23, 23] })
    {B n : Nat} {v : Value} {xs : List Value} (hown : w.ownsRow B 9 1 v n xs) (hB : B ≤ w.heap.size) (hs : a.eval s = v)
    {y : Value} {d : Nat} (hx : a.eval x = .slice (some ⟨w.heap.size, 0, none⟩) 1 d) (hy : y.oneCell' = true) (hfit : n ≤ 1048577)
    (h : ∀ g' c' w', w'.ownsRow B 9 1 (.slice (some ⟨g', 0, none⟩) (n + 1) c') (n + 1) (xs ++ [y]) → (w.alloc (.cells #[y] 9)).grownBy w' v.ownBlock → wpList Try.prog ops Q rest (a.put o.dst (.slice (some ⟨g', 0, none⟩) (n + 1) c')) w') :
    wpList Try.prog ops Q (o :: rest) a (w.alloc (.cells #[y] 9)) := by
  obtain ⟨i0, hi, hz0, hz1, hz2⟩ := info_parts Try.info9
  refine wpList_append_lies (w.alloc (.cells #[y] 9)) hgd s x 23 ho B 9 i0 (.string ByteArray.empty) 1 16 Try.underlying23 hi hz0 hz1 hz2 rfl (by omega) _ n xs hs (hown.alloc _) ⟨w.heap.size, 0, none⟩ 1 d [y] hx rfl
    (World.news_of_block (heap_alloc_new w _)) (fun u hu => by rw [List.mem_singleton.1 hu]; exact hy) (by omega) (by unfold maxLen; omega) (by omega) (by simp; omega) (w.heap.size + 1) (by simp) ?_
  intro g' cap w' h1 h2 _ _
  exact h g' cap w' h1 h2

/-- the loop's state -/
structure St (s : ByteArray) (w : World) (k : Nat) (v : Value) (n : Nat) (parts : List (List UInt8)) (cur : List UInt8) (wr : World) : Prop where
  st : S6 s.data.toList k parts cur
  own : wr.ownsRow w.heap.size 9 1 v n (parts.map str)
  len : parts.length = n
  bld : Bld w.heap.size w.heap.size cur wr
  bel : Below w.heap.size w wr

theorem St.write {s : ByteArray} {w : World} {k n : Nat} {v : Value} {parts : List (List UInt8)} {cur : List UInt8} {wr w2 : World} {c : UInt8} {e : Ending} (h : St s w k v n parts cur wr) (hc : s.data.toList[k]? = some c)
    (hp : PostW w.heap.size w.heap.size cur c wr e w2) : St s w (k + 1) v n parts (cur ++ [c]) w2 :=
  ⟨h.st.write hc, own_kept h.own h.bld hp.2.2.2, h.len, hp.2.1, h.bel.trans hp.2.2.1⟩

theorem St.lens {s : ByteArray} {w : World} {k n : Nat} {v : Value} {parts : List (List UInt8)} {cur : List UInt8} {wr : World} (h : St s w k v n parts cur wr) : n ≤ k ∧ cur.length ≤ k ∧ k ≤ s.size := by
  have := h.st.lens
  have h2 := h.st.le
  rw [← Lib.size_eq] at h2
  have := h.len
  omega

/-- behind String and append: the builder's block still stands -/
theorem St.part {s : ByteArray} {w : World} {k n : Nat} {v : Value} {parts : List (List UInt8)} {cur : List UInt8} {wr w2 w3 : World} (h : St s w k v n parts cur wr)
    (hb2 : Bld w.heap.size w.heap.size cur w2) (hg : (w2.alloc (.cells #[str cur] 9)).grownBy w3 v.ownBlock) (hown2 : w2.ownsRow w.heap.size 9 1 v n (parts.map str)) (hbel : Below w.heap.size wr w2) :
    (∃ p v0, w3.heap[w.heap.size]? = some (.cells #[p, v0] 41 (0, 0))) ∧ Below w.heap.size w w3 := by
  obtain ⟨p, v0, hb⟩ := bld_heap hb2
  have hlt : w.heap.size < w2.heap.size := (Array.getElem?_eq_some_iff.1 hb).1
  refine ⟨⟨p, v0, ?_⟩, ?_⟩
  · rw [hg.block w.heap.size (by simp; omega) (fun e => own_ne hown2 hb e.symm), Below.heap_alloc w2 _ _ hlt]
    exact hb
  · refine ((h.bel.trans hbel).alloc (by omega) _).grown hg (by simp; omega) (fun k hk => ?_)
    exact (hown2.lt k hk).1

theorem St.cut {s : ByteArray} {w : World} {k n g c : Nat} {parts : List (List UInt8)} {cur : List UInt8} {w3 : World} {p v0 : Value} (hst : S6 s.data.toList k parts cur) (hlen : parts.length = n) (hc : s.data.toList[k]? = some 59)
    (hown : w3.ownsRow w.heap.size 9 1 (.slice (some ⟨g, 0, none⟩) (n + 1) c) (n + 1) (parts.map str ++ [str cur])) (hb : w3.heap[w.heap.size]? = some (.cells #[p, v0] 41 (0, 0))) (hbel : Below w.heap.size w w3) :
    St s w (k + 1) (.slice (some ⟨g, 0, none⟩) (n + 1) c) (n + 1) (parts ++ [cur]) [] ((w3.setCell ⟨w.heap.size, 0, none⟩ (.pointer none)).setCell ⟨w.heap.size, 1, none⟩ (.slice none 0 0)) := by
  have h1 : (w3.setCell ⟨w.heap.size, 0, none⟩ (.pointer none)).heap[w.heap.size]? = some (.cells #[.pointer none, v0] 41 (0, 0)) := heap_setCell_same w3 w.heap.size 0 _ 41 _ hb
  have h2 : ((w3.setCell ⟨w.heap.size, 0, none⟩ (.pointer none)).setCell ⟨w.heap.size, 1, none⟩ (.slice none 0 0)).heap[w.heap.size]? = some (.cells #[.pointer none, .slice none 0 0] 41 (0, 0)) := heap_setCell_same _ w.heap.size 1 _ 41 _ h1
  have hne : (Value.slice (some ⟨g, 0, none⟩) (n + 1) c).ownBlock ≠ some w.heap.size := own_ne hown hb
  refine ⟨hst.cut hc, ?_, by simp [hlen], .inl ⟨Nat.le_refl _, .slice none 0 0, h2, ⟨by simp [Lib.byteCells], .inl ⟨rfl, by simp [Lib.byteCells]⟩⟩, by simp [Value.ownBlock]⟩, (hbel.setCell (Nat.le_refl _) _).setCell (Nat.le_refl _) _⟩
  rw [List.map_append]
  have e1 : w3.grownBy (w3.setCell ⟨w.heap.size, 0, none⟩ (.pointer none)) (some w.heap.size) := ⟨rfl, rfl, rfl, by simp, fun k _ hk => Below.heap_setCell _ _ _ _ (fun e => hk (congrArg some e))⟩
  have e2 : (w3.setCell ⟨w.heap.size, 0, none⟩ (.pointer none)).grownBy ((w3.setCell ⟨w.heap.size, 0, none⟩ (.pointer none)).setCell ⟨w.heap.size, 1, none⟩ (.slice none 0 0)) (some w.heap.size) := ⟨rfl, rfl, rfl, by simp, fun k _ hk => Below.heap_setCell _ _ _ _ (fun e => hk (congrArg some e))⟩
  exact (hown.kept e1 (.inr hne)).kept e2 (.inr hne)

theorem St.start (s : ByteArray) (w : World) : St s w 0 (.slice none 0 0) 0 [] [] (w.alloc (.cells #[.pointer none, .slice none 0 0] 41)) := by
  refine ⟨S6.start _, ⟨rfl, .inl ⟨rfl, rfl⟩⟩, rfl, .inl ⟨Nat.le_refl _, .slice none 0 0, heap_alloc_new w _, ⟨by simp [Lib.byteCells], .inl ⟨rfl, by simp [Lib.byteCells]⟩⟩, by simp [Value.ownBlock]⟩, (Below.refl _ _).alloc (Nat.le_refl _) _⟩

def Rel6 (s : ByteArray) (w : World) (gk : Nat) (s3 s5 s6 s7 : Value) (wr : World) : Prop :=
  ∃ (k n br cap : Nat) (ao : Option Addr) (q : Int) (parts : List (List UInt8)) (cur : List UInt8), k + gk = s.size ∧ s3 = .slice ao n cap ∧ s5 = .int .u8 q ∧ s6 = .int .i64 br ∧ s7 = .int .i64 k ∧ br ≤ k ∧ St s w k s3 n parts cur wr

def RelM (s : ByteArray) (w : World) (gk n : Nat) (v s3 s5 s6 s7 s8 : Value) (wr : World) : Prop :=
  ∃ (k br : Nat) (q : Int) (c : UInt8) (parts : List (List UInt8)) (cur : List UInt8), s3 = v ∧ s.size ≤ k + gk ∧ k < s.size ∧ s.data.toList[k]? = some c ∧ s5 = .int .u8 q ∧ s6 = .int .i64 br ∧ s7 = .int .i64 k ∧ s8 = .int .u8 (c.toNat : Int) ∧ br ≤ k + 1 ∧ St s w k v n parts cur wr

def PostD (s : ByteArray) (w : World) (e : Ending) (w' : World) : Prop :=
  ∃ (g n c : Nat) (L : List (List UInt8)), e = .returned (.slice (some ⟨g, 0, none⟩) n c) ∧ w'.ownsRow w.heap.size 9 1 (.slice (some ⟨g, 0, none⟩) n c) n (L.map str) ∧ L.length = n ∧ jl L = 59 :: s.data.toList ∧ Below w.heap.size w w'

theorem noPrefix {s : ByteArray} {k : Nat} (h : ∀ j, ¬ openAt s j) : Lib.hasPrefix (s.extract k s.size).data.toList [47, 42] = false := by
  cases e : Lib.hasPrefix (s.extract k s.size).data.toList [47, 42] with
  | false => rfl
  | true =>
    exfalso
    unfold Lib.hasPrefix at e
    rw [List.isPrefixOf_iff_prefix] at e
    obtain ⟨t, ht⟩ := e
    rw [Lib.extract_data] at ht
    have h0 : (s.data.toList.drop k).take (s.size - k) = s.data.toList.drop k := List.take_of_length_le (by rw [List.length_drop, ← Lib.size_eq]; omega)
    rw [h0] at ht
    refine h k ⟨?_, ?_⟩
    · have := congrArg (fun l => l[0]?) ht
      simpa using this.symm
    · have := congrArg (fun l => l[1]?) ht
      simpa [List.getElem?_drop] using this.symm

theorem byte_eq {c d : UInt8} (h : c = d) : ((c.toNat : Int) == (d.toNat : Int)) = true := by rw [h]; simp
theorem ne_of {c d z : UInt8} (h : c = d) (hd : d ≠ z) : ((c.toNat : Int) == (z.toNat : Int)) = false := by rw [h]; exact byte_ne hd

set_option maxRecDepth 100000 in
set_option maxHeartbeats 8000000 in
theorem decl_any (s : ByteArray) (w : World) (hs : s.size ≤ 1048576) (hno : ∀ j, ¬ openAt s j) : Calls Try.prog 22 #[.string s] w (PostD s w) := by
  have HNO := hid hno
  clear hno
  go_enter Try.func22, Try.ntmps22
  go_upto_region 3 with fail
  have H0 := hid (St.start s w)
  generalize w.alloc (.cells #[.pointer none, .slice none 0 0] 41) = w1 at *
  go_wp2
  go_loopg [3, 5, 6, 7] s.size (fun gk s3 s5 s6 s7 wr => Rel6 s w gk s3 s5 s6 s7 wr)
  case atStart => exact ⟨0, 0, 0, 0, none, 0, [], [], by omega, rfl, rfl, rfl, rfl, Nat.le_refl _, H0.out⟩
  case round =>
    obtain ⟨k, n, br, cap, ao, q, parts, cur, hkg, rfl, rfl, rfl, rfl, hbr, hS⟩ := hrel
    obtain ⟨hn, hcl, hks⟩ := hS.lens
    have HKG := hid hkg
    have HS := hid hS
    have hB := hS.bel.size
    clear hkg hS H0
    by_cases hlt : k < s.size
    · obtain ⟨c, hc⟩ : ∃ c, s[k] = c := ⟨_, rfl⟩
      have HX : Hid (s.data.toList[k]? = some c) := by show _ = _; rw [Lib.data_getElem? s k hlt, hc]
      have HWB := hid (writeByte_any w.heap.size w.heap.size cur c wr HS.out.bld (by omega) hB)
      have hbr2 : (br : Int) ≤ 1048576 := by omega
      go_upto_block 2 with fail
      clear hc
      go_cut [3, 5, 6, 7, 8] from 10 to 115 (fun s3 s5 s6 s7 s8 wc => RelM s w gk n (.slice ao n cap) s3 s5 s6 s7 s8 wc)
      case first =>
        by_cases hq : q = 0
        · have hqb : (q != 0) = false := by rw [hq]; rfl
          clear hq
          by_cases h47 : c = 47
          · skip
            have f47 : ((c.toNat : Int) == 47) = true := byte_eq (d := 47) h47
            have f34 : ((c.toNat : Int) == 34) = false := ne_of (z := 34) h47 (by decide)
            have f39 : ((c.toNat : Int) == 39) = false := ne_of (z := 39) h47 (by decide)
            have f40 : ((c.toNat : Int) == 40) = false := ne_of (z := 40) h47 (by decide)
            have f91 : ((c.toNat : Int) == 91) = false := ne_of (z := 91) h47 (by decide)
            have f123 : ((c.toNat : Int) == 123) = false := ne_of (z := 123) h47 (by decide)
            have f41 : ((c.toNat : Int) == 41) = false := ne_of (z := 41) h47 (by decide)
            have f93 : ((c.toNat : Int) == 93) = false := ne_of (z := 93) h47 (by decide)
            have f125 : ((c.toNat : Int) == 125) = false := ne_of (z := 125) h47 (by decide)
            have f59 : ((c.toNat : Int) == 59) = false := ne_of (z := 59) h47 (by decide)
            clear h47
            have HPX : Hid (∀ W, Calls Try.prog 26 #[.string (s.extract k s.size), .string ⟨#[47, 42]⟩] W fun e w' => e = .returned (.bool false) ∧ w' = W) := fun W =>
              (Try.strings_HasPrefix (s.extract k s.size) ⟨#[47, 42]⟩ W).mono fun e w' ⟨he, hw⟩ => ⟨by rw [he]; exact congrArg (fun b => Ending.returned (.bool b)) (noPrefix HNO.out), hw⟩
            go_wp2_with fail
            refine (HPX.out _).mono ?_
            rintro e w' ⟨rfl, hw⟩
            rw [hw]
            go_wp2
            go_meet
            case rel => exact ⟨k, br, q, c, parts, cur, rfl, by have := HKG.out; omega, by omega, HX.out, rfl, by go_num, by go_num, rfl, by omega, HS.out⟩
          have f47 : ((c.toNat : Int) == 47) = false := byte_ne (c := 47) h47
          clear h47
          by_cases h34 : c = 34
          · skip
            have f47 : ((c.toNat : Int) == 47) = false := ne_of (z := 47) h34 (by decide)
            have f34 : ((c.toNat : Int) == 34) = true := byte_eq (d := 34) h34
            have f39 : ((c.toNat : Int) == 39) = false := ne_of (z := 39) h34 (by decide)
            have f40 : ((c.toNat : Int) == 40) = false := ne_of (z := 40) h34 (by decide)
            have f91 : ((c.toNat : Int) == 91) = false := ne_of (z := 91) h34 (by decide)
            have f123 : ((c.toNat : Int) == 123) = false := ne_of (z := 123) h34 (by decide)
            have f41 : ((c.toNat : Int) == 41) = false := ne_of (z := 41) h34 (by decide)
            have f93 : ((c.toNat : Int) == 93) = false := ne_of (z := 93) h34 (by decide)
            have f125 : ((c.toNat : Int) == 125) = false := ne_of (z := 125) h34 (by decide)
            have f59 : ((c.toNat : Int) == 59) = false := ne_of (z := 59) h34 (by decide)
            clear h34
            go_wp2
            go_meet
            case rel => exact ⟨k, br, _, c, parts, cur, rfl, by have := HKG.out; omega, by omega, HX.out, rfl, by go_num, by go_num, rfl, by omega, HS.out⟩
          have f34 : ((c.toNat : Int) == 34) = false := byte_ne (c := 34) h34
          clear h34
          by_cases h39 : c = 39
          · skip
            have f47 : ((c.toNat : Int) == 47) = false := ne_of (z := 47) h39 (by decide)
            have f34 : ((c.toNat : Int) == 34) = false := ne_of (z := 34) h39 (by decide)
            have f39 : ((c.toNat : Int) == 39) = true := byte_eq (d := 39) h39
            have f40 : ((c.toNat : Int) == 40) = false := ne_of (z := 40) h39 (by decide)
            have f91 : ((c.toNat : Int) == 91) = false := ne_of (z := 91) h39 (by decide)
            have f123 : ((c.toNat : Int) == 123) = false := ne_of (z := 123) h39 (by decide)
            have f41 : ((c.toNat : Int) == 41) = false := ne_of (z := 41) h39 (by decide)
            have f93 : ((c.toNat : Int) == 93) = false := ne_of (z := 93) h39 (by decide)
            have f125 : ((c.toNat : Int) == 125) = false := ne_of (z := 125) h39 (by decide)
            have f59 : ((c.toNat : Int) == 59) = false := ne_of (z := 59) h39 (by decide)
            clear h39
            go_wp2
            go_meet
            case rel => exact ⟨k, br, _, c, parts, cur, rfl, by have := HKG.out; omega, by omega, HX.out, rfl, by go_num, by go_num, rfl, by omega, HS.out⟩
          have f39 : ((c.toNat : Int) == 39) = false := byte_ne (c := 39) h39
          clear h39
          by_cases h40 : c = 40
          · skip
            have f47 : ((c.toNat : Int) == 47) = false := ne_of (z := 47) h40 (by decide)
            have f34 : ((c.toNat : Int) == 34) = false := ne_of (z := 34) h40 (by decide)
            have f39 : ((c.toNat : Int) == 39) = false := ne_of (z := 39) h40 (by decide)
            have f40 : ((c.toNat : Int) == 40) = true := byte_eq (d := 40) h40
            have f91 : ((c.toNat : Int) == 91) = false := ne_of (z := 91) h40 (by decide)
            have f123 : ((c.toNat : Int) == 123) = false := ne_of (z := 123) h40 (by decide)
            have f41 : ((c.toNat : Int) == 41) = false := ne_of (z := 41) h40 (by decide)
            have f93 : ((c.toNat : Int) == 93) = false := ne_of (z := 93) h40 (by decide)
            have f125 : ((c.toNat : Int) == 125) = false := ne_of (z := 125) h40 (by decide)
            have f59 : ((c.toNat : Int) == 59) = false := ne_of (z := 59) h40 (by decide)
            clear h40
            go_wp2
            go_meet
            case rel => exact ⟨k, br + 1, q, c, parts, cur, rfl, by have := HKG.out; omega, by omega, HX.out, rfl, by go_num, by go_num, rfl, by omega, HS.out⟩
          have f40 : ((c.toNat : Int) == 40) = false := byte_ne (c := 40) h40
          clear h40
          by_cases h91 : c = 91
          · skip
            have f47 : ((c.toNat : Int) == 47) = false := ne_of (z := 47) h91 (by decide)
            have f34 : ((c.toNat : Int) == 34) = false := ne_of (z := 34) h91 (by decide)
            have f39 : ((c.toNat : Int) == 39) = false := ne_of (z := 39) h91 (by decide)
            have f40 : ((c.toNat : Int) == 40) = false := ne_of (z := 40) h91 (by decide)
            have f91 : ((c.toNat : Int) == 91) = true := byte_eq (d := 91) h91
            have f123 : ((c.toNat : Int) == 123) = false := ne_of (z := 123) h91 (by decide)
            have f41 : ((c.toNat : Int) == 41) = false := ne_of (z := 41) h91 (by decide)
            have f93 : ((c.toNat : Int) == 93) = false := ne_of (z := 93) h91 (by decide)
            have f125 : ((c.toNat : Int) == 125) = false := ne_of (z := 125) h91 (by decide)
            have f59 : ((c.toNat : Int) == 59) = false := ne_of (z := 59) h91 (by decide)
            clear h91
            go_wp2
            go_meet
            case rel => exact ⟨k, br + 1, q, c, parts, cur, rfl, by have := HKG.out; omega, by omega, HX.out, rfl, by go_num, by go_num, rfl, by omega, HS.out⟩
          have f91 : ((c.toNat : Int) == 91) = false := byte_ne (c := 91) h91
          clear h91
          by_cases h123 : c = 123
          · skip
            have f47 : ((c.toNat : Int) == 47) = false := ne_of (z := 47) h123 (by decide)
            have f34 : ((c.toNat : Int) == 34) = false := ne_of (z := 34) h123 (by decide)
            have f39 : ((c.toNat : Int) == 39) = false := ne_of (z := 39) h123 (by decide)
            have f40 : ((c.toNat : Int) == 40) = false := ne_of (z := 40) h123 (by decide)
            have f91 : ((c.toNat : Int) == 91) = false := ne_of (z := 91) h123 (by decide)
            have f123 : ((c.toNat : Int) == 123) = true := byte_eq (d := 123) h123
            have f41 : ((c.toNat : Int) == 41) = false := ne_of (z := 41) h123 (by decide)
            have f93 : ((c.toNat : Int) == 93) = false := ne_of (z := 93) h123 (by decide)
            have f125 : ((c.toNat : Int) == 125) = false := ne_of (z := 125) h123 (by decide)
            have f59 : ((c.toNat : Int) == 59) = false := ne_of (z := 59) h123 (by decide)
            clear h123
            go_wp2
            go_meet
            case rel => exact ⟨k, br + 1, q, c, parts, cur, rfl, by have := HKG.out; omega, by omega, HX.out, rfl, by go_num, by go_num, rfl, by omega, HS.out⟩
          have f123 : ((c.toNat : Int) == 123) = false := byte_ne (c := 123) h123
          clear h123
          by_cases h41 : c = 41
          · skip
            have f47 : ((c.toNat : Int) == 47) = false := ne_of (z := 47) h41 (by decide)
            have f34 : ((c.toNat : Int) == 34) = false := ne_of (z := 34) h41 (by decide)
            have f39 : ((c.toNat : Int) == 39) = false := ne_of (z := 39) h41 (by decide)
            have f40 : ((c.toNat : Int) == 40) = false := ne_of (z := 40) h41 (by decide)
            have f91 : ((c.toNat : Int) == 91) = false := ne_of (z := 91) h41 (by decide)
            have f123 : ((c.toNat : Int) == 123) = false := ne_of (z := 123) h41 (by decide)
            have f41 : ((c.toNat : Int) == 41) = true := byte_eq (d := 41) h41
            have f93 : ((c.toNat : Int) == 93) = false := ne_of (z := 93) h41 (by decide)
            have f125 : ((c.toNat : Int) == 125) = false := ne_of (z := 125) h41 (by decide)
            have f59 : ((c.toNat : Int) == 59) = false := ne_of (z := 59) h41 (by decide)
            clear h41
            by_cases hb0 : 0 < br
            · have hb1 : (0 : Int) < (br : Int) := by omega
              go_wp2
              go_meet
              case rel => exact ⟨k, br - 1, q, c, parts, cur, rfl, by have := HKG.out; omega, by omega, HX.out, rfl, by go_num, by go_num, rfl, by omega, HS.out⟩
            · have hb1 : ¬ ((0 : Int) < (br : Int)) := by omega
              go_wp2
              go_meet
              case rel => exact ⟨k, br, q, c, parts, cur, rfl, by have := HKG.out; omega, by omega, HX.out, rfl, by go_num, by go_num, rfl, by omega, HS.out⟩
          have f41 : ((c.toNat : Int) == 41) = false := byte_ne (c := 41) h41
          clear h41
          by_cases h93 : c = 93
          · skip
            have f47 : ((c.toNat : Int) == 47) = false := ne_of (z := 47) h93 (by decide)
            have f34 : ((c.toNat : Int) == 34) = false := ne_of (z := 34) h93 (by decide)
            have f39 : ((c.toNat : Int) == 39) = false := ne_of (z := 39) h93 (by decide)
            have f40 : ((c.toNat : Int) == 40) = false := ne_of (z := 40) h93 (by decide)
            have f91 : ((c.toNat : Int) == 91) = false := ne_of (z := 91) h93 (by decide)
            have f123 : ((c.toNat : Int) == 123) = false := ne_of (z := 123) h93 (by decide)
            have f41 : ((c.toNat : Int) == 41) = false := ne_of (z := 41) h93 (by decide)
            have f93 : ((c.toNat : Int) == 93) = true := byte_eq (d := 93) h93
            have f125 : ((c.toNat : Int) == 125) = false := ne_of (z := 125) h93 (by decide)
            have f59 : ((c.toNat : Int) == 59) = false := ne_of (z := 59) h93 (by decide)
            clear h93
            by_cases hb0 : 0 < br
            · have hb1 : (0 : Int) < (br : Int) := by omega
              go_wp2
              go_meet
              case rel => exact ⟨k, br - 1, q, c, parts, cur, rfl, by have := HKG.out; omega, by omega, HX.out, rfl, by go_num, by go_num, rfl, by omega, HS.out⟩
            · have hb1 : ¬ ((0 : Int) < (br : Int)) := by omega
              go_wp2
              go_meet
              case rel => exact ⟨k, br, q, c, parts, cur, rfl, by have := HKG.out; omega, by omega, HX.out, rfl, by go_num, by go_num, rfl, by omega, HS.out⟩
          have f93 : ((c.toNat : Int) == 93) = false := byte_ne (c := 93) h93
          clear h93
          by_cases h125 : c = 125
          · skip
            have f47 : ((c.toNat : Int) == 47) = false := ne_of (z := 47) h125 (by decide)
            have f34 : ((c.toNat : Int) == 34) = false := ne_of (z := 34) h125 (by decide)
            have f39 : ((c.toNat : Int) == 39) = false := ne_of (z := 39) h125 (by decide)
            have f40 : ((c.toNat : Int) == 40) = false := ne_of (z := 40) h125 (by decide)
            have f91 : ((c.toNat : Int) == 91) = false := ne_of (z := 91) h125 (by decide)
            have f123 : ((c.toNat : Int) == 123) = false := ne_of (z := 123) h125 (by decide)
            have f41 : ((c.toNat : Int) == 41) = false := ne_of (z := 41) h125 (by decide)
            have f93 : ((c.toNat : Int) == 93) = false := ne_of (z := 93) h125 (by decide)
            have f125 : ((c.toNat : Int) == 125) = true := byte_eq (d := 125) h125
            have f59 : ((c.toNat : Int) == 59) = false := ne_of (z := 59) h125 (by decide)
            clear h125
            by_cases hb0 : 0 < br
            · have hb1 : (0 : Int) < (br : Int) := by omega
              go_wp2
              go_meet
              case rel => exact ⟨k, br - 1, q, c, parts, cur, rfl, by have := HKG.out; omega, by omega, HX.out, rfl, by go_num, by go_num, rfl, by omega, HS.out⟩
            · have hb1 : ¬ ((0 : Int) < (br : Int)) := by omega
              go_wp2
              go_meet
              case rel => exact ⟨k, br, q, c, parts, cur, rfl, by have := HKG.out; omega, by omega, HX.out, rfl, by go_num, by go_num, rfl, by omega, HS.out⟩
          have f125 : ((c.toNat : Int) == 125) = false := byte_ne (c := 125) h125
          clear h125
          by_cases h59 : c = 59
          · skip
            have HX59 : Hid (s.data.toList[k]? = some 59) := by show _ = _; rw [HX.out, h59]
            have f47 : ((c.toNat : Int) == 47) = false := ne_of (z := 47) h59 (by decide)
            have f34 : ((c.toNat : Int) == 34) = false := ne_of (z := 34) h59 (by decide)
            have f39 : ((c.toNat : Int) == 39) = false := ne_of (z := 39) h59 (by decide)
            have f40 : ((c.toNat : Int) == 40) = false := ne_of (z := 40) h59 (by decide)
            have f91 : ((c.toNat : Int) == 91) = false := ne_of (z := 91) h59 (by decide)
            have f123 : ((c.toNat : Int) == 123) = false := ne_of (z := 123) h59 (by decide)
            have f41 : ((c.toNat : Int) == 41) = false := ne_of (z := 41) h59 (by decide)
            have f93 : ((c.toNat : Int) == 93) = false := ne_of (z := 93) h59 (by decide)
            have f125 : ((c.toNat : Int) == 125) = false := ne_of (z := 125) h59 (by decide)
            have f59 : ((c.toNat : Int) == 59) = true := byte_eq (d := 59) h59
            clear h59
            by_cases hb0 : br = 0
            · have hb1 : ((br : Int) == 0) = true := by rw [hb0]; rfl
              clear hb0
              have HST := hid (Try.Builder_String_any_k w.heap.size w.heap.size cur wr HS.out.bld hB)
              go_wp2_with fail
              refine HST.out.mono ?_
              rintro e w2 ⟨rfl, hb2, hbel2, hk2⟩
              have HO2 := hid (own_kept HS.out.own HS.out.bld hk2)
              have HB2 := hid hb2
              have HL2 := hid hbel2
              have hB2 : w.heap.size ≤ w2.heap.size := by have := hbel2.size; omega
              clear hb2 hbel2 hk2 HST
              go_upto_region 29 with (at_builtin; refine app_part (by rfl) _ _ (by rfl) HO2.out hB2 (by rfl) (by rfl) (by rfl) (by omega) ?_; intro g3 c3 w3 hr3 hg3)
              have HP := hid (HS.out.part HB2.out hg3 HO2.out HL2.out)
              have HR3 := hid hr3
              clear hr3 hg3
              obtain ⟨p3, v3, hh3⟩ := HP.out.1
              have HRS := hid (reset_any w.heap.size p3 v3 w3 hh3)
              have HS4 := hid (St.cut HS.out.st HS.out.len HX59.out HR3.out hh3 HP.out.2)
              clear hh3
              go_wp2_with fail
              refine HRS.out.mono ?_
              rintro e w4 ⟨rfl, rfl⟩
              go_wp2
              go_roundg (gk - 1)
              case measure => have := HKG.out; omega
              case rel => exact ⟨k + 1, n + 1, br, c3, _, q, _, _, by have := HKG.out; omega, rfl, rfl, rfl, by go_num, by omega, HS4.out⟩
            · have hb1 : ((br : Int) == 0) = false := by rw [beq_eq_false_iff_ne]; omega
              clear hb0
              go_wp2
              go_meet
              case rel => exact ⟨k, br, q, c, parts, cur, rfl, by have := HKG.out; omega, by omega, HX.out, rfl, by go_num, by go_num, rfl, by omega, HS.out⟩
          have f59 : ((c.toNat : Int) == 59) = false := byte_ne (c := 59) h59
          clear h59
          go_wp2
          go_meet
          case rel => exact ⟨k, br, q, c, parts, cur, rfl, by have := HKG.out; omega, by omega, HX.out, rfl, by go_num, by go_num, rfl, by omega, HS.out⟩
        · have hqb : (q != 0) = true := bne_iff_ne.2 hq
          clear hq
          by_cases h92 : c = 92
          · have f92 : ((c.toNat : Int) == 92) = true := byte_eq (d := 92) h92
            clear h92
            by_cases hl2 : k + 1 < s.size
            · have hl3 : (k : Int) + 1 < (s.size : Int) := by omega
              obtain ⟨d, hd⟩ : ∃ d, s[k + 1] = d := ⟨_, rfl⟩
              have HD : Hid (s.data.toList[k + 1]? = some d) := by show _ = _; rw [Lib.data_getElem? s (k + 1) hl2, hd]
              go_wp2_with fail
              refine HWB.out.mono ?_
              intro e w3 hp
              have HS3 := hid (HS.out.write HX.out hp)
              obtain ⟨rfl, _⟩ := hp
              go_wp2
              go_meet
              case rel => exact ⟨k + 1, br, q, d, parts, _, rfl, by have := HKG.out; omega, by omega, HD.out, rfl, by go_num, by go_num, rfl, by omega, HS3.out⟩
            · have hl3 : ¬ ((k : Int) + 1 < (s.size : Int)) := by omega
              by_cases hcq : ((c.toNat : Int) == q) = true
              · go_wp2
                go_meet
                case rel => exact ⟨k, br, 0, c, parts, cur, rfl, by have := HKG.out; omega, by omega, HX.out, rfl, by go_num, by go_num, rfl, by omega, HS.out⟩
              · have hcq2 : ((c.toNat : Int) == q) = false := by simpa using hcq
                clear hcq
                go_wp2
                go_meet
                case rel => exact ⟨k, br, q, c, parts, cur, rfl, by have := HKG.out; omega, by omega, HX.out, rfl, by go_num, by go_num, rfl, by omega, HS.out⟩
          · have f92 : ((c.toNat : Int) == 92) = false := byte_ne (c := 92) h92
            clear h92
            by_cases hcq : ((c.toNat : Int) == q) = true
            · go_wp2
              go_meet
              case rel => exact ⟨k, br, 0, c, parts, cur, rfl, by have := HKG.out; omega, by omega, HX.out, rfl, by go_num, by go_num, rfl, by omega, HS.out⟩
            · have hcq2 : ((c.toNat : Int) == q) = false := by simpa using hcq
              clear hcq
              go_wp2
              go_meet
              case rel => exact ⟨k, br, q, c, parts, cur, rfl, by have := HKG.out; omega, by omega, HX.out, rfl, by go_num, by go_num, rfl, by omega, HS.out⟩
      case rest =>
        obtain ⟨k2, br2, q2, c2, parts2, cur2, rfl, hg2, hk2, hx2, rfl, rfl, rfl, rfl, hb2, hS2⟩ := hcut
        obtain ⟨hn2, hcl2, _⟩ := hS2.lens
        have HWB2 := hid (writeByte_any w.heap.size w.heap.size cur2 c2 _ hS2.bld (by omega) hS2.bel.size)
        have HS2 := hid hS2
        have HX2 := hid hx2
        have HG2 := hid hg2
        clear hS2 hx2 hg2
        go_wp2_with fail
        refine HWB2.out.mono ?_
        intro e w3 hp
        have HS3 := hid (HS2.out.write HX2.out hp)
        obtain ⟨rfl, _⟩ := hp
        go_wp2
        go_roundg (s.size - (k2 + 1))
        case measure => have := HG2.out; omega
        case rel => exact ⟨k2 + 1, n, br2, cap, ao, q2, parts2, _, by omega, rfl, rfl, rfl, by go_num, hb2, HS3.out⟩
    · have hkk : k = s.size := by omega
      have HK := hid hkk
      have hkn : ¬ ((k : Int) < (s.size : Int)) := by omega
      have HST := hid (Try.Builder_String_any_k w.heap.size w.heap.size cur wr HS.out.bld hB)
      clear hkk
      go_wp2_with fail
      refine HST.out.mono ?_
      rintro e w2 ⟨rfl, hb2, hbel2, hk2⟩
      have HO2 := hid (own_kept HS.out.own HS.out.bld hk2)
      have HB2 := hid hb2
      have HL2 := hid hbel2
      have hB2 : w.heap.size ≤ w2.heap.size := by have := hbel2.size; omega
      clear hb2 hbel2 hk2 HST
      go_wp2_with (at_builtin; refine app_part (by rfl) _ _ (by rfl) HO2.out hB2 (by rfl) (by rfl) (by rfl) (by omega) ?_; intro g3 c3 w3 hr3 hg3)
      have HP := hid (HS.out.part HB2.out hg3 HO2.out HL2.out)
      have HR3 := hid hr3
      clear hr3 hg3
      go_ret
      refine ⟨g3, n + 1, c3, parts ++ [cur], rfl, by rw [List.map_append]; exact HR3.out, by rw [List.length_append, HS.out.len]; rfl, ?_, HP.out.2⟩
      have := HS.out.st.eq
      rw [HK.out, List.take_of_length_le (by rw [← Lib.size_eq]; exact Nat.le_refl _)] at this
      exact this
end Go.Proofs.Qxb6001104a

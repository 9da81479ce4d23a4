/-
  closerOf (32), jsonLiteral (34); what encodeValue's (23) proof is said with.
-/
import Derived.Test.Qxb6000759aAppJson
import Derived.Test.Qxb6000759aEncLaws
import Derived.Deep.DeepCutAuto
import Derived.Lib.SlBytesConst
import Derived.WalkLawsBesides
namespace Go.Proofs.Qxb6000759a
open Go.RowKit

theorem closer_any (x : Int) (w : World) (h : x = 91 ∨ x = 123) :
    Calls Try.prog 32 #[.int .u8 x] w fun e w' => (∃ c : Int, e = .returned (.int .u8 c) ∧ (c = 125 ∨ c = 93)) ∧ w' = w := by
  rcases h with rfl | rfl
  all_goals
    go_enter Try.func32, Try.ntmps32
    go_wp2
    go_ret
  · exact ⟨⟨93, rfl, .inr rfl⟩, rfl⟩
  · exact ⟨⟨125, rfl, .inl rfl⟩, rfl⟩

/-- a literal's text -/
def LitOk (s : ByteArray) : Prop := 0 < s.size ∧ s.size ≤ 8 ∧ ∃ l : List Int, Lib.strCells s = l.map (Value.int .u8) ∧ l.length = s.size ∧ ∀ y ∈ l, Js.plain y = true ∧ 0 ≤ y ∧ y < 256

theorem litOk_of (s : ByteArray) (l : List Int) (h : Lib.strCells s = l.map (Value.int .u8)) (hl : (l.all fun y => Js.plain y && decide (0 ≤ y) && decide (y < 256)) = true) (h0 : 0 < l.length) (h8 : l.length ≤ 8) : LitOk s := by
  have hs : l.length = s.size := by have := congrArg List.length h; rw [Lib.strCells_length] at this; simpa using this.symm
  refine ⟨by omega, by omega, l, h, hs, fun y hy => ?_⟩
  have := List.all_eq_true.1 hl y hy
  simp only [Bool.and_eq_true, decide_eq_true_eq] at this
  exact ⟨this.1.1, this.1.2, this.2⟩

set_option maxHeartbeats 1000000 in
theorem lit_any (x : Int) (w : World) (h0 : 0 ≤ x) (h1 : x < 256) :
    Calls Try.prog 34 #[.int .u8 x] w fun e w' => (∃ s, e = .returned (.string s) ∧ LitOk s) ∧ w' = w := by
  rcases (show x % 8 = 0 ∨ x % 8 = 1 ∨ x % 8 = 2 ∨ x % 8 = 3 ∨ x % 8 = 4 ∨ x % 8 = 5 ∨ x % 8 = 6 ∨ x % 8 = 7 from by omega) with h | h | h | h | h | h | h | h
  all_goals
    go_enter Try.func34, Try.ntmps34
    go_wp2
    go_ret
  · exact ⟨⟨_, rfl, litOk_of _ [116, 114, 117, 101] rfl (by decide +kernel) (by decide) (by decide)⟩, rfl⟩
  · exact ⟨⟨_, rfl, litOk_of _ [102, 97, 108, 115, 101] rfl (by decide +kernel) (by decide) (by decide)⟩, rfl⟩
  · exact ⟨⟨_, rfl, litOk_of _ [110, 117, 108, 108] rfl (by decide +kernel) (by decide) (by decide)⟩, rfl⟩
  · exact ⟨⟨_, rfl, litOk_of _ [48] rfl (by decide +kernel) (by decide) (by decide)⟩, rfl⟩
  · exact ⟨⟨_, rfl, litOk_of _ [45, 49, 50, 46, 53, 101, 43, 51] rfl (by decide +kernel) (by decide) (by decide)⟩, rfl⟩
  · exact ⟨⟨_, rfl, litOk_of _ [45, 48] rfl (by decide +kernel) (by decide) (by decide)⟩, rfl⟩
  · exact ⟨⟨_, rfl, litOk_of _ [49, 69, 45, 55] rfl (by decide +kernel) (by decide) (by decide)⟩, rfl⟩
  · exact ⟨⟨_, rfl, litOk_of _ [49, 50, 51] rfl (by decide +kernel) (by decide) (by decide)⟩, rfl⟩

/-- the bytes of a slice that came in -/
def BytesAt (B : Nat) (w : World) (ao : Option Addr) (len : Nat) : Prop := ∀ i, i < len → ∃ b o z, ao = some ⟨b, o, none⟩ ∧ b < B ∧ w.cell? ⟨b, o + i, none⟩ = some (.int .u8 z) ∧ 0 ≤ z ∧ z < 256
/-- the strings of a slice that came in -/
def StrsAt (B : Nat) (w : World) (ao : Option Addr) (len : Nat) : Prop := ∀ i, i < len → ∃ b o s, ao = some ⟨b, o, none⟩ ∧ b < B ∧ w.cell? ⟨b, o + i, none⟩ = some (.string s) ∧ s.size ≤ 1048576

theorem snoc_of {l : List Int} {k : Nat} (h : l.length = k + 1) : ∃ l' x, l = l' ++ [x] :=
  have hne : l ≠ [] := fun e => by rw [e] at h; simp at h
  ⟨l.dropLast, l.getLast hne, (List.dropLast_concat_getLast hne).symm⟩
theorem hid {p : Prop} (h : p) : Hid p := h

/-- a round's head -/
def RelE (B : Nat) (w : World) (len slen : Nat) (gk : Nat) (s5 s6 s7 s8 s9 s10 : Value) (wr : World) : Prop :=
  ∃ (j go no co gs ns cs gf cf nx : Nat) (out st : List Int) (fl : List Bool) (done : Bool), j + gk = len ∧ s10 = .int .i64 j ∧ s5 = .slice (some ⟨go, 0, none⟩) no co ∧ s6 = .slice (some ⟨gs, 0, none⟩) ns cs ∧
    s7 = .slice (some ⟨gf, 0, none⟩) ns cf ∧ s8 = .int .i64 nx ∧ s9 = .bool done ∧ nx ≤ slen ∧ Inv B w wr go no co gs ns cs gf cf out st fl ∧ Good out st done ∧ no ≤ j * 20000000 ∧ ns ≤ j

theorem relE_mk {B : Nat} {w w2 : World} {len slen g' j go no co gs ns cs gf cf nx : Nat} {out st : List Int} {fl : List Bool} {done : Bool} (hj : j + (g' + 1) = len) (hnx : nx ≤ slen)
    (hI : Inv B w w2 go no co gs ns cs gf cf out st fl) (hg : Good out st done) (hno : no ≤ (j + 1) * 20000000) (hns : ns ≤ j + 1) :
    RelE B w len slen g' (.slice (some ⟨go, 0, none⟩) no co) (.slice (some ⟨gs, 0, none⟩) ns cs) (.slice (some ⟨gf, 0, none⟩) ns cf) (.int .i64 nx) (.bool done) (.int .i64 ((j : Int) + 1)) w2 :=
  ⟨j + 1, go, no, co, gs, ns, cs, gf, cf, nx, out, st, fl, done, by omega, by go_num, rfl, rfl, rfl, rfl, rfl, hnx, hI, hg, hno, hns⟩

theorem ar1 {no n2 j : Nat} (hno : no ≤ j * 20000000) (h : n2 ≤ no + 13000000) : n2 ≤ (j + 1) * 20000000 := by omega

/-- a round that closes -/
theorem relE_close {B : Nat} {w w2 : World} {len slen g' j g2 n2 c2 gs k cs gf cf nx no : Nat} {out st' : List Int} {fl : List Bool} {x cl : Int} {p : List Int} (hj : j + (g' + 1) = len) (hnx : nx ≤ slen)
    (hI : Inv B w w2 g2 n2 c2 gs (k + 1) cs gf cf (out ++ (p ++ [cl])) (st' ++ [x]) fl) (hg : Good out (st' ++ [x]) false) (hp : p.all neutral = true) (hcl : cl = 125 ∨ cl = 93) (hno : no ≤ j * 20000000) (hn2 : n2 ≤ no + 10) (hns : k + 1 ≤ j) (s9 : Value) (h9 : s9 = .bool (decide (k = 0))) :
    RelE B w len slen g' (.slice (some ⟨g2, 0, none⟩) n2 c2) (.slice (some ⟨gs, 0, none⟩) k cs) (.slice (some ⟨gf, 0, none⟩) k cf) (.int .i64 nx) s9 (.int .i64 ((j : Int) + 1)) w2 := by
  subst h9
  have hk : st'.length = k := by have := hI.lens.2.1; simpa using this
  refine relE_mk hj hnx hI.pop (hg.close hp hcl _ ?_) (by omega) (by omega)
  rw [decide_eq_true_eq, ← hk, List.length_eq_zero_iff]

/-- behind the comma and the key of a member -/
def RelP (B : Nat) (w : World) (slen gs ns cs gf cf no : Nat) (st : List Int) (s5 s8 : Value) (wc : World) : Prop :=
  ∃ (g1 n1 c1 nx : Nat) (out : List Int) (fl : List Bool), s5 = .slice (some ⟨g1, 0, none⟩) n1 c1 ∧ s8 = .int .i64 nx ∧ nx ≤ slen ∧ Inv B w wc g1 n1 c1 gs ns cs gf cf out st fl ∧ Good out st false ∧ n1 ≤ no + 6300000

/-- behind the comma -/
def RelC (B : Nat) (w : World) (gs ns cs gf cf no : Nat) (st : List Int) (s5 : Value) (wc : World) : Prop :=
  ∃ (g1 n1 c1 : Nat) (out : List Int) (fl : List Bool), s5 = .slice (some ⟨g1, 0, none⟩) n1 c1 ∧ Inv B w wc g1 n1 c1 gs ns cs gf cf out st fl ∧ Good out st false ∧ n1 ≤ no + 3

theorem lit_val (l : List Int) (h0 : 0 < l.length) (h : ∀ y ∈ l, Js.plain y = true) : Js.IsVal l := by
  cases l with
  | nil => simp at h0
  | cons x l => exact .inr (.inl ⟨x, l, rfl, h⟩)

/-- behind the first loop: the text and the stack alone -/
structure Inv2 (B : Nat) (w0 w : World) (go no co gs ns cs : Nat) (out st : List Int) : Prop where
  bel : Below B w0 w
  o : Row 5 B w go no co (out.map (Value.int .u8))
  s : Row 5 B w gs ns cs (st.map (Value.int .u8))
  os : go ≠ gs
theorem Inv.two {B : Nat} {w0 w : World} {go no co gs ns cs gf cf : Nat} {out st : List Int} {fl : List Bool} (h : Inv B w0 w go no co gs ns cs gf cf out st fl) : Inv2 B w0 w go no co gs ns cs out st := ⟨h.bel, h.o, h.s, h.os⟩
theorem Inv2.app {B : Nat} {w0 w w' : World} {go no co gs ns cs go' no' co' : Nat} {out st : List Int} {nv : List Value} (h : Inv2 B w0 w go no co gs ns cs out st) (news : List Int)
    (hr : Row 5 B w' go' no' co' (out.map (Value.int .u8) ++ nv)) (hg : GrewB w w' go go') (hn : nv = news.map (Value.int .u8)) : Inv2 B w0 w' go' no' co' gs ns cs (out ++ news) st :=
  ⟨h.bel.trans (hg.below h.o.lt.1 h.o.2), by rw [List.map_append, ← hn]; exact hr, h.s.kept hg h.os.symm, (h.s.apart hg h.os.symm).symm⟩
theorem Inv2.pop {B : Nat} {w0 w : World} {go no co gs ns cs : Nat} {out st : List Int} {x : Int} (h : Inv2 B w0 w go no co gs (ns + 1) cs out (st ++ [x])) : Inv2 B w0 w go no co gs ns cs out st := by
  have hst : st.length = ns := by have := h.s.len; simpa using this
  refine ⟨h.bel, h.o, ⟨⟨by simp [hst], ?_⟩, h.s.2⟩, h.os⟩
  rcases h.s.1.2 with ⟨hh, _⟩ | ⟨g', cap, cur, hv, hb, hg, h1, h2, h3, h4⟩
  · cases hh
  · cases hv
    refine .inr ⟨gs, cs, cur, rfl, hb, hg, by omega, h2, h3, ?_⟩
    have := congrArg (List.take ns) h4
    rw [List.take_take, List.map_append, List.take_left' (by simp [hst])] at this
    rw [← this]
    congr 1
    omega

/-- the second loop's head -/
def RelL (B : Nat) (w : World) (gk : Nat) (s5 s6 : Value) (wr : World) : Prop :=
  ∃ (go no co gs cs : Nat) (out st : List Int) (done : Bool), s5 = .slice (some ⟨go, 0, none⟩) no co ∧ s6 = .slice (some ⟨gs, 0, none⟩) gk cs ∧ Inv2 B w wr go no co gs gk cs out st ∧ Good out st done ∧ (done = true ↔ st = []) ∧ no + gk ≤ 25000000000000

/-- what the call comes to -/
def PostE (B : Nat) (w : World) (e : Ending) (w' : World) : Prop :=
  ∃ (g n c : Nat) (v : List Int), e = .returned (.slice (some ⟨g, 0, none⟩) n c) ∧ v.length = n ∧ (∀ k, k < v.length → w'.cell? ⟨g, k, none⟩ = some (.int .u8 (v.getD k 0))) ∧ B ≤ g ∧ g < w'.heap.size ∧ n ≤ c ∧ n ≤ 30000000000000 ∧
    Js.IsVal v ∧ (∀ x ∈ v, 0 ≤ x ∧ x < 256) ∧ Below B w w'

theorem inv_start (w : World) : Inv w.heap.size w (((w.alloc (.cells #[] 5)).alloc (.cells #[] 5)).alloc (.cells #[] 4)) w.heap.size 0 0 (w.heap.size + 1) 0 0 (w.heap.size + 2) 0 [] [] [] := by
  have key : ∀ (e : TypeId) (W : World), w.heap.size ≤ W.heap.size → Row e w.heap.size (W.alloc (.cells #[] e)) W.heap.size 0 0 [] := fun e W hW =>
    ⟨World.ownsRow_made W #[] 0 hW (Nat.zero_le _) rfl, by simp; omega⟩
  have k1 := key 5 w (Nat.le_refl _)
  have k2 := key 5 (w.alloc (.cells #[] 5)) (by simp)
  have k3 := key 4 ((w.alloc (.cells #[] 5)).alloc (.cells #[] 5)) (by simp; omega)
  refine ⟨(((Below.refl _ _).alloc (Nat.le_refl _) _).alloc (by simp) _).alloc (by simp; omega) _, (k1.alloc _).alloc _, ?_, ?_, by omega, by omega, by omega⟩
  · have := k2.alloc (.cells #[] 4); simpa using this
  · simpa using k3

theorem relL_close {B : Nat} {w wr w2 : World} {g1 n1 c1 gs1 cs1 k g2 c2 : Nat} {out st : List Int} {x cl : Int} (hI : Inv2 B w wr g1 n1 c1 gs1 (k + 1) cs1 out (st ++ [x])) (hG : Good out (st ++ [x]) false)
    (hr : Row 5 B w2 g2 (n1 + 1) c2 (out.map (Value.int .u8) ++ [.int .u8 cl])) (hg : GrewB wr w2 g1 g2) (hcl : cl = 125 ∨ cl = 93) (hn : n1 + (k + 1) ≤ 25000000000000) :
    RelL B w k (.slice (some ⟨g2, 0, none⟩) (n1 + 1) c2) (.slice (some ⟨gs1, 0, none⟩) k cs1) w2 :=
  ⟨g2, n1 + 1, c2, gs1, cs1, out ++ [cl], st, decide (st = []), rfl, rfl, (hI.app [cl] hr hg rfl).pop, hG.close (p := []) rfl hcl _ (by simp), by simp, by omega⟩

theorem postE_of {B : Nat} {w wr : World} {g1 n1 c1 gs1 ns1 cs1 : Nat} {out st : List Int} (hI : Inv2 B w wr g1 n1 c1 gs1 ns1 cs1 out st) (hV : Js.IsVal out) (hrg : ∀ x ∈ out, 0 ≤ x ∧ x < 256) (hn : n1 ≤ 30000000000000) :
    PostE B w (.returned (.slice (some ⟨g1, 0, none⟩) n1 c1)) wr := by
  have hl : out.length = n1 := by have := hI.o.len; simpa using this
  refine ⟨g1, n1, c1, out, rfl, hl, fun k hk => ?_, hI.o.lt.1, hI.o.lt.2, hI.o.cap.1, hn, hV, hrg, hI.bel⟩
  rw [hI.o.cell k (by omega)]
  simp [List.getElem?_eq_getElem hk]

theorem postE_null {w wr : World} (hB : Below w.heap.size w wr) (hS : w.heap.size ≤ wr.heap.size) :
    PostE w.heap.size w (.returned (.slice (some ⟨wr.heap.size, 0, none⟩) 4 4)) (wr.alloc (.cells #[.int .u8 110, .int .u8 117, .int .u8 108, .int .u8 108] 5 (4, 5))) := by
  refine ⟨wr.heap.size, 4, 4, [110, 117, 108, 108], rfl, rfl, fun k hk => ?_, hS, by simp, by omega, by omega, .inr (.inl ⟨110, [117, 108, 108], rfl, by decide⟩), by decide, hB.alloc hS _⟩
  rw [cell_of_row _ wr.heap.size k _ 5 (4, 5) (heap_alloc_new wr _)]
  match k, hk with
  | 0, _ => rfl
  | 1, _ => rfl
  | 2, _ => rfl
  | 3, _ => rfl
  | k + 4, h => exact absurd h (by simp)

def findIf (n : Nat) : Code → Option Code
  | .cond (.tmp k) a b => if k == n then some (.cond (.tmp k) a b) else match findIf n a with
    | some c => some c
    | none => findIf n b
  | .seq a b => match findIf n a with
    | some c => some c
    | none => findIf n b
  | .block _ c => findIf n c
  | .scope c => findIf n c
  | .loop c => findIf n c
  | _ => none

end Go.Proofs.Qxb6000759a

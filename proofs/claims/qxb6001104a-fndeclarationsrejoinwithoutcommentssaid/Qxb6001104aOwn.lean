/-
  Rows of bytes that the call itself has made, and 'append' upon them, in the words that the walks of this seat use.
-/
import Derived.Test.Qxb6001104aProg
import Derived.WalkKit
import Derived.Deep.AppendLies
import Derived.Lib.AppendStr
namespace Go.Proofs.Qxb6001104a
open Go.RowKit

theorem Try.info5 : (Try.prog.info? 5).map (fun i => (i.zero, i.size, i.bytes)) = some (some (.int .u8 0), 1, 1) := by kernel_rfl
theorem hid {p : Prop} (h : p) : Hid p := h

/-- the slice at the head of block g, n elements, capacity c, owns the cells xs; the call's own blocks begin at B -/
def Row (e : TypeId) (B : Nat) (w : World) (g n c : Nat) (xs : List Value) : Prop := w.ownsRow B e 1 (.slice (some ⟨g, 0, none⟩) n c) n xs ∧ B ≤ w.heap.size

/-- w' is w with new blocks, and writes to block g alone; g' is g or new -/
structure GrewB (w w' : World) (g g' : Nat) : Prop where
  grown : w.grownBy w' (some g)
  at_ : g' = g ∨ w.heap.size ≤ g'

theorem GrewB.refl (w : World) (g : Nat) : GrewB w w g g := ⟨World.grownBy.refl _ _, .inl rfl⟩

theorem GrewB.trans {w w1 w2 : World} {g g1 g2 : Nat} (a : GrewB w w1 g g1) (b : GrewB w1 w2 g1 g2) : GrewB w w2 g g2 := by
  refine ⟨⟨b.grown.os.trans a.grown.os, b.grown.tape.trans a.grown.tape, b.grown.output.trans a.grown.output, Nat.le_trans a.grown.size b.grown.size, fun k hk hne => ?_⟩, ?_⟩
  · have := a.grown.size
    rw [b.grown.block k (by omega) ?_, a.grown.block k hk hne]
    rcases a.at_ with h | h
    · rw [h]; exact hne
    · intro e; have : k = g1 := by simpa using e
      omega
  · have := a.grown.size
    rcases b.at_ with h | h
    · rw [h]; exact a.at_
    · exact .inr (by omega)

theorem GrewB.below {w w' : World} {g g' B : Nat} (h : GrewB w w' g g') (hB : B ≤ g) (hs : B ≤ w.heap.size) : Below B w w' :=
  (Below.refl B w).grown h.grown hs (fun k hk => by have : g = k := by simpa using hk
                                                    omega)

theorem GrewB.alloc {w : World} {o : Obj} {w' : World} {g g' : Nat} (h : GrewB (w.alloc o) w' g g') : GrewB w w' g g' := by
  refine ⟨⟨h.grown.os, h.grown.tape, h.grown.output, ?_, fun k hk hne => ?_⟩, ?_⟩
  · have := h.grown.size; simp at this; omega
  · rw [h.grown.block k (by simp; omega) hne, Below.heap_alloc w o k hk]
  · rcases h.at_ with e | e
    · exact .inl e
    · simp at e; exact .inr (by omega)

theorem Row.len {e : TypeId} {B : Nat} {w : World} {g n c : Nat} {xs : List Value} (h : Row e B w g n c xs) : xs.length = n := by simpa using h.1.1
theorem Row.lt {e : TypeId} {B : Nat} {w : World} {g n c : Nat} {xs : List Value} (h : Row e B w g n c xs) : B ≤ g ∧ g < w.heap.size := h.1.lt g rfl
theorem Row.cap {e : TypeId} {B : Nat} {w : World} {g n c : Nat} {xs : List Value} (h : Row e B w g n c xs) : n ≤ c ∧ c ≤ maxLen := by
  rcases h.1.2 with ⟨h, _⟩ | ⟨g', cap, cur, hv, _, _, h1, h2, _⟩
  · cases h
  · cases hv; exact ⟨h1, h2⟩
theorem Row.alloc {e : TypeId} {B : Nat} {w : World} {g n c : Nat} {xs : List Value} (h : Row e B w g n c xs) (o : Obj) : Row e B (w.alloc o) g n c xs := ⟨h.1.alloc o, by simp; have := h.2; omega⟩
theorem Row.cell {e : TypeId} {B : Nat} {w : World} {g n c : Nat} {xs : List Value} (h : Row e B w g n c xs) (j : Nat) (hj : j < n) : w.cell? ⟨g, j, none⟩ = xs[j]? := h.1.cellAt j (by omega)
theorem Row.free {e : TypeId} {B : Nat} {w : World} {g n c : Nat} {xs : List Value} (h : Row e B w g n c xs) (j : Nat) : w.frozen? ⟨g, j, none⟩ = false := h.1.frozenAt j

/-- a row in another block is as it was -/
theorem Row.kept {e : TypeId} {B : Nat} {w w' : World} {g n c g1 g2 : Nat} {xs : List Value} (h : Row e B w g n c xs) (hg : GrewB w w' g1 g2) (hne : g ≠ g1) : Row e B w' g n c xs :=
  ⟨h.1.kept hg.grown (.inr (by simp [Value.ownBlock]; exact hne)), by have := hg.grown.size; have := h.2; omega⟩

theorem Row.apart {e : TypeId} {B : Nat} {w w' : World} {g n c g1 g2 : Nat} {xs : List Value} (h : Row e B w g n c xs) (hg : GrewB w w' g1 g2) (hne : g ≠ g1) : g ≠ g2 := by
  have := h.lt
  rcases hg.at_ with e | e <;> omega

set_option maxHeartbeats 1000000 in
/-- append(out, c1, c2, ..): the new bytes have just been laid in a block of their own -/
theorem app_new {e t : TypeId} {z : Value} (ht : Try.prog.underlying t = some (.slice e)) (hinfo : (Try.prog.info? e).map (fun i => (i.zero, i.size, i.bytes)) = some (some z, 1, 1)) (hz : z.cells.size = 1)
    {w : World} {ops : Array Oper} {rest : List Oper} {o : Oper} {a : Act} {Q : Exit → Act → World → Prop} (hgd : o.guard = none) (s x : Operand)
    (ho : o.op = .call { callee := .builtin .append, args := #[s, x], argTypes := #[t, t] })
    {B g n c : Nat} {xs : List Value} (hrow : Row e B w g n c xs) (hs : a.eval s = .slice (some ⟨g, 0, none⟩) n c)
    {cs : Array Value} {m d : Nat} (hx : a.eval x = .slice (some ⟨w.heap.size, 0, none⟩) m d) (hm : cs.size = m) (hm0 : 0 < m) (h1 : cs.toList.all Value.oneCell' = true) (hfit : n + m ≤ 100000000000000)
    (h : ∀ g' c' w', Row e B w' g' (n + m) c' (xs ++ cs.toList) → GrewB w w' g g' → wpList Try.prog ops Q rest (a.put o.dst (.slice (some ⟨g', 0, none⟩) (n + m) c')) w') :
    wpList Try.prog ops Q (o :: rest) a (w.alloc (.cells cs e)) := by
  obtain ⟨i0, hi, hz0, hz1, hz2⟩ := info_parts hinfo
  have hr := hrow.lt
  refine wpList_append_lies (w.alloc (.cells cs e)) hgd s x t ho B e i0 z 1 1 ht hi hz0 hz1 hz2 hz (by omega) _ n xs hs (hrow.1.alloc _) ⟨w.heap.size, 0, none⟩ m d cs.toList hx (by simp [hm])
    (World.news_of_block (heap_alloc_new w _)) (fun u hu => List.all_eq_true.1 h1 u hu) hm0 (by unfold maxLen; omega) (by omega) (by simp; omega) (w.heap.size + 1) (by simp) ?_
  intro g' cap w' hown hgrow hat hlt
  have hgb : GrewB (w.alloc (.cells cs e)) w' g g' := ⟨hgrow, by
    rcases hat with e1 | e1
    · left; simpa [Value.ownBlock] using e1.symm
    · right; simp; omega⟩
  exact h g' cap w' ⟨hown, by have := hgb.grown.size; simp at this; omega⟩ hgb.alloc

/-- append(out, s...), s a string -/
theorem run_append_string_at {P : Program} (w : World) (t u ty e : TypeId) (i : TypeInfo) (ht : P.underlying t = some (.slice e)) (hu : P.underlying u = some .string) (hi : P.info? e = some i) (hz : i.zero = some (.int .u8 0))
    (hsize : i.size = 1) (hby : i.bytes = 1) {B g n c : Nat} {xs : List Value} (hrow : Row e B w g n c xs) (s : ByteArray) (hfit : n + s.size ≤ 100000000000000) :
    ∃ g' c' w', (Builtin.append_ #[t, u] ty #[.slice (some ⟨g, 0, none⟩) n c, .string s]).run P w = .ok (.slice (some ⟨g', 0, none⟩) (n + s.size) c') w' ∧ Row e B w' g' (n + s.size) c' (xs ++ Lib.strCells s) ∧ GrewB w w' g g' := by
  obtain ⟨v', w', hrun, hown, hgrow, hnil⟩ := Lib.run_append_own_string (P := P) w B t u ty e i ht hu hi hz hsize hby _ n xs hrow.1 s (by unfold maxLen; omega) (by omega) hrow.2
  obtain ⟨g', c', rfl⟩ : ∃ g' c', v' = .slice (some ⟨g', 0, none⟩) (n + s.size) c' := by
    rcases hown.2 with ⟨h, _⟩ | ⟨g', c', _, h, _⟩
    · have := (hnil.1 h).1; cases this
    · exact ⟨g', c', h⟩
  refine ⟨g', c', w', hrun, ⟨hown, by have := hgrow.size; have := hrow.2; omega⟩, hgrow, ?_⟩
  rcases hrow.1.2 with ⟨h, _⟩ | ⟨g0, cap0, cur, hv, hb, hg, h1, h2, h3, _⟩
  · cases h
  · cases hv
    by_cases hroom : n + s.size ≤ c
    · have hr := Lib.run_append_room_string (P := P) w t u ty e i ht hu hi hsize g n c cur hg s hroom (by omega)
      rw [hr] at hrun
      injection hrun with hv hw
      injection hv with ha _ _
      injection ha with ha
      injection ha with ha
      exact .inl ha.symm
    · have hl : xs.length = n * i.size := by rw [hsize]; exact hrow.1.1
      have holds : ∀ j u, xs[j]? = some u → w.cell? ((⟨g, 0, none⟩ : Addr).add j) = some u := hrow.1.cells (g := g) rfl
      have hr := Lib.run_append_grow_string (P := P) w t u ty e i (.int .u8 0) ht hu hi hz ⟨g, 0, none⟩ n c xs hl holds s (by omega) (by omega) (by rw [hby]; exact growslice_fits (by omega) (by omega))
      rw [hr] at hrun
      injection hrun with hv hw
      injection hv with ha _ _
      injection ha with ha
      injection ha with ha
      exact .inr (by omega)

theorem app_str {w : World} {ops : Array Oper} {rest : List Oper} {o : Oper} {a : Act} {Q : Exit → Act → World → Prop} (hgd : o.guard = none) (sl x : Operand)
    (ho : o.op = .call { callee := .builtin .append, args := #[sl, x], argTypes := #[37, 9] })
    {B g n c : Nat} {xs : List Value} (hrow : Row 5 B w g n c xs) (hs : a.eval sl = .slice (some ⟨g, 0, none⟩) n c)
    {s : ByteArray} (hx : a.eval x = .string s) (hfit : n + s.size ≤ 100000000000000)
    (h : ∀ g' c' w', Row 5 B w' g' (n + s.size) c' (xs ++ Lib.strCells s) → GrewB w w' g g' → wpList Try.prog ops Q rest (a.put o.dst (.slice (some ⟨g', 0, none⟩) (n + s.size) c')) w') :
    wpList Try.prog ops Q (o :: rest) a w := by
  obtain ⟨i0, hi, hz0, hz1, hz2⟩ := info_parts Try.info5
  refine wpList_plain hgd fun K hK => ?_
  obtain ⟨g', c', w', hr, h2, h3⟩ := run_append_string_at (P := Try.prog) w 37 9 o.type 5 i0 Try.underlying37 Try.underlying9 hi hz0 hz1 hz2 hrow s hfit
  unfold Oper.wp execOp
  simp only [ho, resolve, invoke, builtin, Sem.run_bind, Sem.run_pure, Result.andThen_ok, List.map_toArray, List.map_cons, List.map_nil, hs, hx, hr]
  exact hK _ _ (h g' c' w' h2 h3)

end Go.Proofs.Qxb6001104a

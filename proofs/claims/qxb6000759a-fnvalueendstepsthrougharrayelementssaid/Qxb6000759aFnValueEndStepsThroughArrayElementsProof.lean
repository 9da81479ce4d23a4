/-
  THE STATEMENT 'Rows.FnValueEndStepsThroughArrayElementsSaid'. The frame is the guide's own (proof-skeleton.mjs at slices of integers), turned by hand to a slice of strings.
-/
import Derived.Test.Qxb6000759aRows
import Derived.Test.Qxb6000759aLawA
import Derived.Test.Qxb6000759aHead
import Derived.WalkKit
import Derived.ProofKit
import Derived.OpenShut
import Derived.ShutString
import Derived.SliceStrings
import Derived.ChangeOld
import Derived.Below
namespace Go.Proofs.Qxb6000759a.fnValueEndStepsThroughArrayElements
open Go.ChangeShapes Go.WideShapes Go.ChangeAt Go.RowKit
open Go.ChangeMaps (open_string shut_string)
set_option linter.unusedVariables false

theorem own : ownKnob Try.prog.godebug = none := by kernel_rfl
theorem laidOut : laidOutB Try.prog = true := by kernel_rfl

theorem bytesAt_of {w : World} {x : Addr} {len : Nat} {zs : List Int} (hl : len ≤ zs.length) (hc : ∀ i, i < zs.length → w.cell? (x.add i) = some (.int .u8 (zs.getD i 0))) (hw : ∀ n ∈ zs, (Lit.int .u8 n).wf = true) : BytesAt w.heap.size w (some x) len := by
  intro i hi
  have h0 := hc i (by omega)
  obtain ⟨b, o, spot⟩ := x
  have hspot : spot = none := by
    have := World.cell?_spot (hc 0 (by omega))
    simpa [Addr.add] using this
  subst hspot
  have hadd : (⟨b, o, none⟩ : Addr).add i = ⟨b, o + i, none⟩ := by simp [Addr.add]
  rw [hadd] at h0
  have hz : zs.getD i 0 ∈ zs := by rw [List.getD_eq_getElem?_getD, List.getElem?_eq_getElem (by omega)]; simp
  have hb := bounds_u8 (hw _ hz)
  exact ⟨b, o, zs.getD i 0, rfl, World.block_lt_of_cell? w ⟨b, o + i, none⟩ h0, h0, hb.1, by omega⟩

theorem strsIn_of' {w : World} {x : Addr} {len : Nat} {ss : List ByteArray} (hl : len ≤ ss.length) (hc : ∀ i, i < ss.length → w.cell? (x.add i) = some (.string (ss.getD i ByteArray.empty))) (hw : ∀ s ∈ ss, s.size ≤ maxLen) : StrsIn w (some x) len := by
  intro i hi
  have h0 := hc i (by omega)
  obtain ⟨b, o, spot⟩ := x
  have hspot : spot = none := by
    have := World.cell?_spot (hc 0 (by omega))
    simpa [Addr.add] using this
  subst hspot
  have hadd : (⟨b, o, none⟩ : Addr).add i = ⟨b, o + i, none⟩ := by simp [Addr.add]
  rw [hadd] at h0
  have hz : ss.getD i ByteArray.empty ∈ ss := by rw [List.getD_eq_getElem?_getD, List.getElem?_eq_getElem (by omega)]; simp
  exact ⟨b, o, ss.getD i ByteArray.empty, rfl, World.block_lt_of_cell? w ⟨b, o + i, none⟩ h0, h0, hw _ hz⟩

set_option maxRecDepth 100000 in
theorem lifted (os : Os) (started : os.Started) (H : Type) (enc : TypeId × Value → H) :
    ReturnsInHanded {} Try.checked os 10 .any (Rows.fnValueEndStepsThroughArrayElementsSpec.pre6 enc Try.prog Try.f10 Rows.fnValueEndStepsThroughArrayElementsRow.domain false) (Rows.fnValueEndStepsThroughArrayElementsSpec.post enc Try.prog Try.f10 false true false false) := by
  refine returnsInHanded_of_change (C := Try.checked) own started (by kernel_rfl) Try.func10
    (ChangeSpec.witness6 (enc := enc) (C := Try.checked) false ⟨#[], #[.slice none 0 0, .slice none 0 0, .slice none 0 0], []⟩ 8 (by kernel_rfl) (by kernel_rfl) (by kernel_rfl) (by kernel_rfl)) ?_
  intro W base args ds gs before hval0 hW hcnd _
  have hval : ∀ (j : Nat) t v, Try.f10.params[j]? = some t → args[j]? = some v → Value.okWide Try.prog W .any base t v := hval0
  have hW' := hW
  obtain ⟨p, q, hA0, hV, rfl, hfz, hnd⟩ := hW
  have hA : DataW.TrodAll enc Try.prog W 0 (fun _ => true) true Try.f10.params.toList args.toList ds p := hA0
  rw [Try.params10] at hA hval
  obtain ⟨v0, vs0, d0, ds0, p0, q0, hargs, rfl, rfl, h0, r0⟩ := trodAll_cons hA
  obtain ⟨v1, vs1, d1, ds1, p1, q1, rfl, rfl, rfl, h1, r1⟩ := trodAll_cons r0
  obtain ⟨v2, vs2, d2, ds2, p2, q2, rfl, rfl, rfl, h2, r2⟩ := trodAll_cons r1
  obtain ⟨rfl, rfl, rfl⟩ := trodAll_nil r2
  obtain rfl : args = #[v0, v1, v2] := by cases args; simp_all
  obtain ⟨rfl, rfl⟩ := trodVars_none hV
  obtain ⟨a0, len0, cap0, rfl⟩ := okWide_slice Try.underlying24 (hval 0 24 v0 rfl rfl)
  obtain ⟨a1, len1, cap1, rfl⟩ := okWide_slice Try.underlying24 (hval 1 24 v1 rfl rfl)
  obtain ⟨a2, len2, cap2, rfl⟩ := okWide_slice Try.underlying31 (hval 2 31 v2 rfl rfl)
  have k0 := h0
  have lt0 : ∀ x ∈ p0, x.block < W.heap.size := by obtain ⟨m, hm⟩ := k0; exact DataW.trod_lt m _ _ _ hm
  have k1 := h1
  have lt1 : ∀ x ∈ p1, x.block < W.heap.size := by obtain ⟨m, hm⟩ := k1; exact DataW.trod_lt m _ _ _ hm
  have k2 := h2
  have lt2 : ∀ x ∈ p2, x.block < W.heap.size := by obtain ⟨m, hm⟩ := k2; exact DataW.trod_lt m _ _ _ hm
  obtain ⟨w0, n0, m0⟩ : BytesAt W.heap.size W a0 len0 ∧ (a0 = none → len0 = 0) ∧ len0 ≤ maxLen := by
    obtain ⟨fuel, hf⟩ := h0
    rcases open_ints Try.underlying24 Try.underlying5 (by kernel_rfl) hf with ⟨hcs, _⟩ | ⟨x, l, c, zs, hcs, _, hl, hm, hz, _, hcell, hwz⟩
    · simp [Value.cells] at hcs
      obtain ⟨rfl, rfl, rfl⟩ := hcs
      exact ⟨fun i hi => absurd hi (by omega), fun _ => rfl, by unfold maxLen; omega⟩
    · simp [Value.cells] at hcs
      obtain ⟨rfl, rfl, rfl⟩ := hcs
      simp at hz
      exact ⟨bytesAt_of (by omega) hcell hwz, (fun h => by cases h), Nat.le_trans hl hm⟩
  obtain ⟨w1, n1, m1⟩ : BytesAt W.heap.size W a1 len1 ∧ (a1 = none → len1 = 0) ∧ len1 ≤ maxLen := by
    obtain ⟨fuel, hf⟩ := h1
    rcases open_ints Try.underlying24 Try.underlying5 (by kernel_rfl) hf with ⟨hcs, _⟩ | ⟨x, l, c, zs, hcs, _, hl, hm, hz, _, hcell, hwz⟩
    · simp [Value.cells] at hcs
      obtain ⟨rfl, rfl, rfl⟩ := hcs
      exact ⟨fun i hi => absurd hi (by omega), fun _ => rfl, by unfold maxLen; omega⟩
    · simp [Value.cells] at hcs
      obtain ⟨rfl, rfl, rfl⟩ := hcs
      simp at hz
      exact ⟨bytesAt_of (by omega) hcell hwz, (fun h => by cases h), Nat.le_trans hl hm⟩
  obtain ⟨w2, n2, m2⟩ : StrsIn W a2 len2 ∧ (a2 = none → len2 = 0) ∧ len2 ≤ maxLen := by
    obtain ⟨fuel, hf⟩ := h2
    rcases open_strings Try.underlying31 Try.underlying9 (by kernel_rfl) hf with ⟨hcs, _⟩ | ⟨x, l, c, ss, hcs, _, hl, hm, hz, _, hcell, hws⟩
    · simp [Value.cells] at hcs
      obtain ⟨rfl, rfl, rfl⟩ := hcs
      exact ⟨fun i hi => absurd hi (by omega), fun _ => rfl, by unfold maxLen; omega⟩
    · simp [Value.cells] at hcs
      obtain ⟨rfl, rfl, rfl⟩ := hcs
      simp at hz
      exact ⟨strsIn_of' (by omega) hcell hws, (fun h => by cases h), Nat.le_trans hl hm⟩
  clear hA0 hval0
  refine (law_walk a0 a1 a2 len0 cap0 len1 cap1 len2 cap2 W w0 w1 w2 n0 n1 n2 m0 m1 m2).mono fun e W' ⟨he, bel⟩ => ?_
  subst he
  exact ⟨_, rfl, _, _, _, [], _, [], hW', trodAll_mk1 (shut_bool Try.underlying4 _), (trodAll_cons_mk (Below.trod laidOut (by kernel_rfl) (of_decide_eq_true (by kernel_rfl)) k0 bel lt0) (trodAll_cons_mk (Below.trod laidOut (by kernel_rfl) (of_decide_eq_true (by kernel_rfl)) k1 bel lt1) (trodAll_cons_mk (Below.trod laidOut (by kernel_rfl) (of_decide_eq_true (by kernel_rfl)) k2 bel lt2) trodAll_mk0))), rfl, bel.frame _, fun h => by cases h⟩

theorem closed : joinedFacts Try.prog 10 Try.f10 Rows.fnValueEndStepsThroughArrayElementsSpec Rows.fnValueEndStepsThroughArrayElementsRow = true :=
  facts_of Try.prog 10 Try.f10 Rows.fnValueEndStepsThroughArrayElementsSpec Rows.fnValueEndStepsThroughArrayElementsRow (by kernel_rfl) (by kernel_rfl) (by kernel_rfl) (by kernel_rfl) (by kernel_rfl) (by kernel_rfl) (by kernel_rfl) (by kernel_rfl) (by kernel_rfl) (by kernel_rfl) (by kernel_rfl) (by kernel_rfl) (by kernel_rfl) (by kernel_rfl) (by kernel_rfl) (by kernel_rfl) (by kernel_rfl) (by kernel_rfl) (by kernel_rfl) (by kernel_rfl) (by kernel_rfl) (by kernel_rfl) (by kernel_rfl) (by kernel_rfl) (by kernel_rfl) (by kernel_rfl) (by kernel_rfl) (by kernel_rfl) (by kernel_rfl) may_enter lifts_final (by kernel_rfl) make_cut rfl

theorem over : Rows.fnValueEndStepsThroughArrayElementsRow.holds Try.pinned (OpenSpec.ofChange Rows.fnValueEndStepsThroughArrayElementsSpec) :=
  OpenClaim.holds_of_wide 10 Try.f10 rfl rfl rfl rfl rfl rfl rfl ⟨rfl, rfl, rfl, rfl, rfl⟩ rfl rfl rfl rfl rfl (by kernel_rfl) Try.func10 closed
    (of_decide_eq_true (by kernel_rfl)) (by unfold Func.isWrapper; first | (rw [if_pos (by decide +kernel)]; kernel_rfl) | (rw [if_neg (by decide +kernel)]; exact ⟨rfl, rfl⟩))
    (fun os started H enc _ => lifted os started H enc)

/-- ████ THE STATEMENT ████ -/
theorem proved : Rows.FnValueEndStepsThroughArrayElementsSaid := over
#print axioms proved
end Go.Proofs.Qxb6000759a.fnValueEndStepsThroughArrayElements

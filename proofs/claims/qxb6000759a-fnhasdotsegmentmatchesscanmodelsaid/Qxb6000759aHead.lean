/-
  The head of the dump, word by word: so that the kernel need not lay a long string open at a closed fact of a row.
-/
import Derived.Test.Qxb6000759aRows
import Derived.JoinedOf
import Derived.KernelRfl
namespace Go.Proofs.Qxb6000759a

theorem words_word (w r : List Char) (h : w.all (fun c => c != ' ') = true) : wordsSigns (w ++ ' ' :: r) = w :: wordsSigns r := by
  induction w with
  | nil => rfl
  | cons c w ih =>
    simp only [List.all_cons, Bool.and_eq_true, bne_iff_ne, ne_eq] at h
    rw [List.cons_append, wordsSigns, ih h.2]
    exact h.1

/-- a head 'harness SUM cut ..' -/
theorem behind_of (P : Program) (b R : List Char) (h : P.initOrder = String.ofList (['h', 'a', 'r', 'n', 'e', 's', 's'] ++ ' ' :: (b ++ ' ' :: (['c', 'u', 't'] ++ ' ' :: R)))) (hb : b.all (fun c => c != ' ') = true) (hs : isSumSigns b = true) :
    behindMainWord (wordsSigns P.initOrder.toList) = ['c', 'u', 't'] :: wordsSigns R := by
  rw [h, String.toList_ofList, words_word _ _ (by decide +kernel), words_word _ _ hb, words_word _ _ (by decide +kernel)]
  show (if ((['h', 'a', 'r', 'n', 'e', 's', 's'] == "harness".toList || ['h', 'a', 'r', 'n', 'e', 's', 's'] == "ownmain".toList) && isSumSigns b) = true then _ else _) = _
  rw [if_pos (by rw [hs]; decide +kernel)]

theorem may_of (P : Program) (R : List (List Char)) (hR : behindMainWord (wordsSigns P.initOrder.toList) = ['c', 'u', 't'] :: R) (h1 : P.laysLater = false) (h2 : P.bearsReflect = false) (h3 : P.doorFits [] = true) : P.mayEnter = true := by
  have e : stripLifts liftWords (['c', 'u', 't'] :: R) = ([], ['c', 'u', 't'] :: R) := by kernel_rfl
  have k1 : (['c', 'u', 't'] == "gc".toList) = false := by kernel_rfl
  have k2 : (['c', 'u', 't'] == "spec".toList) = false := by kernel_rfl
  have k3 : (['c', 'u', 't'] == "carried".toList) = false := by kernel_rfl
  unfold Program.mayEnter
  rw [hR]
  simp only [e, h1, h2, h3, k1, k2, k3, List.head?_cons, Bool.or_self, Bool.false_and, Bool.false_or, Bool.not_false, Bool.or_true, Bool.and_true]
  decide +kernel
theorem final_of (P : Program) (R : List (List Char)) (hR : behindMainWord (wordsSigns P.initOrder.toList) = ['c', 'u', 't'] :: R) : P.liftsFinal = false := by
  unfold Program.liftsFinal Program.headLifts
  rw [hR]
  kernel_rfl
theorem make_of (P : Program) (R : List (List Char)) (hR : behindMainWord (wordsSigns P.initOrder.toList) = ['c', 'u', 't'] :: R) : P.make = some .cut := by
  unfold Program.make
  rw [hR]
  kernel_rfl

theorem signs : ∃ R, behindMainWord (wordsSigns Try.prog.initOrder.toList) = ['c', 'u', 't'] :: R :=
  ⟨_, behind_of Try.prog ['e', 'f', '2', 'c', '9', 'e', '9', '6', '4', 'f', 'b', 'a', '6', '6', '9', 'd', '4', 'c', 'e', 'e', '5', '9', '8', '1', 'f', '1', 'd', '2', 'e', '3', '3', '1', '9', '7', '0', 'c', 'a', 'f', '5', '3', '8', '2', '8', '6', '4', '1', '0', 'f', '7', 'e', '9', '5', '5', '0', '9', '9', 'd', 'c', '4', '7', '3', '7', 'a', '7'] ['a', 't', ' ', 'e', 'x', 'a', 'm', 'p', 'l', 'e', '.', 'c', 'o', 'm', '/', 's', 'i', 'g', 'n', 'a', 'l', 'b', 'o', 'x', '/', 's', 'i', 'g', 'n', 'a', 'l', 'b', 'o', 'x', '/', 'z', 'z', 'l', 'a', 'w', 's', '_', 'i', 'n', 't', 'e', 'r', 'n', 'a', 'l', '_', 'c', 'o', 'n', 'f', 'i', 'g', '_', 'b', '1', '.', 'F', 'n', 'H', 'a', 's', 'D', 'o', 't', 'S', 'e', 'g', 'm', 'e', 'n', 't', 'M', 'a', 't', 'c', 'h', 'e', 's', 'S', 'c', 'a', 'n', 'M', 'o', 'd', 'e', 'l', ' ', 'e', 'x', 'a', 'm', 'p', 'l', 'e', '.', 'c', 'o', 'm', '/', 's', 'i', 'g', 'n', 'a', 'l', 'b', 'o', 'x', '/', 's', 'i', 'g', 'n', 'a', 'l', 'b', 'o', 'x', '/', 'z', 'z', 'l', 'a', 'w', 's', '_', 'i', 'n', 't', 'e', 'r', 'n', 'a', 'l', '_', 'c', 'o', 'n', 'f', 'i', 'g', '_', 'b', '1', '.', 'F', 'n', 'H', 'a', 's', 'D', 'o', 't', 'S', 'e', 'g', 'm', 'e', 'n', 't', 'J', 'o', 'i', 'n', 'I', 's', 'O', 'r', ' ', 'e', 'x', 'a', 'm', 'p', 'l', 'e', '.', 'c', 'o', 'm', '/', 's', 'i', 'g', 'n', 'a', 'l', 'b', 'o', 'x', '/', 's', 'i', 'g', 'n', 'a', 'l', 'b', 'o', 'x', '/', 'z', 'z', 'l', 'a', 'w', 's', '_', 'i', 'n', 't', 'e', 'r', 'n', 'a', 'l', '_', 'c', 'o', 'n', 'f', 'i', 'g', '_', 'b', '1', '.', 'F', 'n', 'H', 'a', 's', 'D', 'o', 't', 'S', 'e', 'g', 'm', 'e', 'n', 't', 'B', 'a', 'c', 'k', 's', 'l', 'a', 's', 'h', 'I', 's', 'S', 'l', 'a', 's', 'h', ' ', 'e', 'x', 'a', 'm', 'p', 'l', 'e', '.', 'c', 'o', 'm', '/', 's', 'i', 'g', 'n', 'a', 'l', 'b', 'o', 'x', '/', 's', 'i', 'g', 'n', 'a', 'l', 'b', 'o', 'x', '/', 'z', 'z', 'l', 'a', 'w', 's', '_', 'i', 'n', 't', 'e', 'r', 'n', 'a', 'l', '_', 'c', 'o', 'n', 'f', 'i', 'g', '_', 'b', '1', '.', 'F', 'n', 'P', 'l', 'a', 'i', 'n', 'T', 'a', 'g', 'A', 'c', 'c', 'e', 'p', 't', 's', 'E', 'v', 'e', 'r', 'y', 'D', 'e', 'c', 'i', 'm', 'a', 'l', 'B', 'e', 'l', 'o', 'w', '1', 'e', '1', '8', ' ', 'e', 'x', 'a', 'm', 'p', 'l', 'e', '.', 'c', 'o', 'm', '/', 's', 'i', 'g', 'n', 'a', 'l', 'b', 'o', 'x', '/', 's', 'i', 'g', 'n', 'a', 'l', 'b', 'o', 'x', '/', 'z', 'z', 'l', 'a', 'w', 's', '_', 'i', 'n', 't', 'e', 'r', 'n', 'a', 'l', '_', 'c', 'o', 'n', 'f', 'i', 'g', '_', 'b', '1', '.', 'F', 'n', 'P', 'l', 'a', 'i', 'n', 'T', 'a', 'g', 'I', 'n', 't', 'O', 'n', 'l', 'y', 'F', 'o', 'r', 'C', 'a', 'n', 'o', 'n', 'i', 'c', 'a', 'l', 'D', 'e', 'c', 'i', 'm', 'a', 'l', 's', ' ', 'e', 'x', 'a', 'm', 'p', 'l', 'e', '.', 'c', 'o', 'm', '/', 's', 'i', 'g', 'n', 'a', 'l', 'b', 'o', 'x', '/', 's', 'i', 'g', 'n', 'a', 'l', 'b', 'o', 'x', '/', 'z', 'z', 'l', 'a', 'w', 's', '_', 'i', 'n', 't', 'e', 'r', 'n', 'a', 'l', '_', 'c', 'o', 'n', 'f', 'i', 'g', '_', 'b', '1', '.', 'F', 'n', 'P', 'l', 'a', 'i', 'n', 'T', 'a', 'g', 'D', 'i', 'g', 'i', 't', 'L', 'e', 'd', 'N', 'o', 'n', 'I', 'n', 't', 'e', 'g', 'e', 'r', 's', ' ', 'e', 'x', 'a', 'm', 'p', 'l', 'e', '.', 'c', 'o', 'm', '/', 's', 'i', 'g', 'n', 'a', 'l', 'b', 'o', 'x', '/', 's', 'i', 'g', 'n', 'a', 'l', 'b', 'o', 'x', '/', 'z', 'z', 'l', 'a', 'w', 's', '_', 'i', 'n', 't', 'e', 'r', 'n', 'a', 'l', '_', 'c', 'o', 'n', 'f', 'i', 'g', '_', 'b', '1', '.', 'F', 'n', 'V', 'a', 'l', 'u', 'e', 'E', 'n', 'd', 'S', 'p', 'a', 'n', 's', 'E', 'n', 'c', 'o', 'd', 'e', 'd', 'V', 'a', 'l', 'u', 'e', ' ', 'e', 'x', 'a', 'm', 'p', 'l', 'e', '.', 'c', 'o', 'm', '/', 's', 'i', 'g', 'n', 'a', 'l', 'b', 'o', 'x', '/', 's', 'i', 'g', 'n', 'a', 'l', 'b', 'o', 'x', '/', 'z', 'z', 'l', 'a', 'w', 's', '_', 'i', 'n', 't', 'e', 'r', 'n', 'a', 'l', '_', 'c', 'o', 'n', 'f', 'i', 'g', '_', 'b', '1', '.', 'F', 'n', 'V', 'a', 'l', 'u', 'e', 'E', 'n', 'd', 'S', 't', 'e', 'p', 's', 'T', 'h', 'r', 'o', 'u', 'g', 'h', 'A', 'r', 'r', 'a', 'y', 'E', 'l', 'e', 'm', 'e', 'n', 't', 's'] (by kernel_rfl) (by decide +kernel) (by decide +kernel)⟩
theorem may_enter : Try.prog.mayEnter = true := signs.elim fun R hR => may_of Try.prog R hR (by kernel_rfl) (by kernel_rfl) (by kernel_rfl)
theorem lifts_final : Try.prog.liftsFinal = false := signs.elim fun R hR => final_of Try.prog R hR
theorem make_cut : Try.prog.make = some .cut := signs.elim fun R hR => make_of Try.prog R hR

/-- the closed facts of a row, each by itself -/
theorem facts_of (P : Program) (f : FuncId) (fn : Func) (s : ChangeSpec) (c : OpenClaim) (k0 : c.wf (OpenSpec.ofChange s) = true) (k1 : laidOutB P = true) (k2 : mapsRowed P = true) (k3 : fn.params.all (P.readableRec ·) = true) (k4 : namedTie P c.named s.vars = true) (k5 : (c.stops == []) = true) (k6 : (P.stops == []) = true) (k7 : (c.knobs == []) = true) (k8 : (P.stopKnobs == []) = true) (k9 : (c.inPlace == P.inPlace f) = true) (k10 : (c.unfollowed == P.unfollowed f) = true) (k11 : (c.recurses == P.recurses f) = true) (k12 : (c.named == P.varsNamed f) = true) (k13 : (c.maps == (fn.params.toList ++ s.plain.varTypes P).any (P.mapsRec ·)) = true) (k14 : (c.ifaces == (fn.params.toList ++ s.plain.varTypes P).any (P.ifacesRec ·)) = true) (k15 : (c.mapsOut == P.mapsAmong fn.resultTypes.toList) = true) (k16 : (c.loops == (fn.params.toList ++ s.plain.varTypes P).any (P.loopsFrom ·)) = true) (k17 : (c.wideKeys == (fn.params.toList ++ s.plain.varTypes P ++ fn.resultTypes.toList).any (P.wideKeysFrom ·)) = true) (k18 : s.vars.all (P.varReadable ·) = true) (k19 : fn.resultTypes.all (fun t => P.readableRec t && decide (t < P.types.size)) = true) (k20 : (c.ifacesOut == fn.resultTypes.toList.any (P.ifacesRec ·)) = true) (k21 : (c.loopsOut == fn.resultTypes.toList.any (P.loopsFrom ·)) = true) (k22 : (c.plainKeys == P.plainKeys) = true) (k23 : c.shortTexts.isNone = true) (k24 : P.stopsHeard = true) (k25 : (c.kinds == (if c.domain.isEmpty then [] else fn.params.toList.map fun t => match P.underlying t with | some (.int k) => some k | _ => none)) = true) (k26 : (c.pinned == c.pinnedBy) = true) (k27 : (c.veiled == (fn.params.toList ++ s.plain.varTypes P ++ fn.resultTypes.toList).any (P.veiledRec ·)) = true) (k28 : c.veiledFits P fn.params.toList (fn.params.toList ++ s.plain.varTypes P ++ fn.resultTypes.toList) = true)
    (hm : P.mayEnter = true) (hl : P.liftsFinal = false) (cl : (c.lifted == false) = true) (hk : P.make = some .cut) (ck : c.make = .cut) : joinedFacts P f fn s c = true := by
  unfold joinedFacts
  simp only [Bool.and_eq_true]
  exact ⟨⟨⟨⟨⟨⟨⟨⟨⟨⟨⟨⟨⟨⟨⟨⟨⟨⟨⟨⟨⟨⟨⟨⟨⟨⟨⟨⟨⟨⟨⟨k0, k1⟩, k2⟩, k3⟩, k4⟩, k5⟩, k6⟩, k7⟩, k8⟩, k9⟩, k10⟩, k11⟩, k12⟩, k13⟩, k14⟩, k15⟩, k16⟩, k17⟩, k18⟩, k19⟩, k20⟩, k21⟩, k22⟩, k23⟩, k24⟩, hm⟩, (by rw [hl]; exact cl)⟩, (by rw [hk, ck]; decide)⟩, k25⟩, k26⟩, k27⟩, k28⟩
end Go.Proofs.Qxb6000759a

/-
  The head of the dump, word by word: so that the kernel need not lay a long string open at a closed fact of a row.
-/
import Derived.Test.Qxb6001104aRows
import Derived.JoinedOf
import Derived.KernelRfl
namespace Go.Proofs.Qxb6001104a

theorem words_word (w r : List Char) (h : w.all (fun c => c != ' ') = true) : wordsSigns (w ++ ' ' :: r) = w :: wordsSigns r := by
  induction w with
  | nil => rfl
  | cons c w ih =>
    simp only [List.all_cons, Bool.and_eq_true, bne_iff_ne, ne_eq] at h
    rw [List.cons_append, wordsSigns, ih h.2]
    exact h.1

/-- a head 'harness SUM cut ..' -/
theorem behind_of (P : Program) (b R : List Char) (h : P.initOrder = String.ofList (['h', 'a', 'r', 'n', 'e', 's', 's'] ++ ' ' :: (b ++ ' ' :: (['c', 'u', 't'] ++ ' ' :: R)))) (hb : b.all (fun c => c != ' ') = true) (hs : isSumSigns b = true) :
    behindMainWord (wordsSigns P.initOrder.toList) = ['c', 'u', 't'] :: wordsSigns R := by
  rw [h, String.toList_ofList, words_word _ _ (by decide +kernel), words_word _ _ hb, words_word _ _ (by decide +kernel)]
  show (if ((['h', 'a', 'r', 'n', 'e', 's', 's'] == "harness".toList || ['h', 'a', 'r', 'n', 'e', 's', 's'] == "ownmain".toList) && isSumSigns b) = true then _ else _) = _
  rw [if_pos (by rw [hs]; decide +kernel)]

theorem may_of (P : Program) (R : List (List Char)) (hR : behindMainWord (wordsSigns P.initOrder.toList) = ['c', 'u', 't'] :: R) (h1 : P.laysLater = false) (h2 : P.bearsReflect = false) (h3 : P.doorFits [] = true) : P.mayEnter = true := by
  have e : stripLifts liftWords (['c', 'u', 't'] :: R) = ([], ['c', 'u', 't'] :: R) := by kernel_rfl
  have k1 : (['c', 'u', 't'] == "gc".toList) = false := by kernel_rfl
  have k2 : (['c', 'u', 't'] == "spec".toList) = false := by kernel_rfl
  have k3 : (['c', 'u', 't'] == "carried".toList) = false := by kernel_rfl
  unfold Program.mayEnter
  rw [hR]
  simp only [e, h1, h2, h3, k1, k2, k3, List.head?_cons, Bool.or_self, Bool.false_and, Bool.false_or, Bool.not_false, Bool.or_true, Bool.and_true]
  decide +kernel
theorem final_of (P : Program) (R : List (List Char)) (hR : behindMainWord (wordsSigns P.initOrder.toList) = ['c', 'u', 't'] :: R) : P.liftsFinal = false := by
  unfold Program.liftsFinal Program.headLifts
  rw [hR]
  kernel_rfl
theorem make_of (P : Program) (R : List (List Char)) (hR : behindMainWord (wordsSigns P.initOrder.toList) = ['c', 'u', 't'] :: R) : P.make = some .cut := by
  unfold Program.make
  rw [hR]
  kernel_rfl

theorem signs : ∃ R, behindMainWord (wordsSigns Try.prog.initOrder.toList) = ['c', 'u', 't'] :: R :=
  ⟨_, behind_of Try.prog ['d', '1', '7', '9', '7', '3', 'f', '0', '8', 'a', 'b', '4', 'b', '7', '4', '6', '4', 'e', 'd', '2', '2', '1', 'd', 'c', '0', '6', '8', '0', '5', '3', '7', '4', 'c', '1', '5', '8', '4', 'e', '4', 'd', '7', '9', '9', '7', 'b', '8', 'e', '7', '7', '2', '9', '0', 'f', '6', 'd', '2', 'd', '9', '2', '2', '6', 'c', '0', 'c'] ['a', 't', ' ', 'e', 'x', 'a', 'm', 'p', 'l', 'e', '.', 'c', 'o', 'm', '/', 't', 'e', 'r', 'm', 'w', 'r', 'i', 'g', 'h', 't', '/', 't', 'e', 'r', 'm', 'w', 'r', 'i', 'g', 'h', 't', '/', 'z', 'z', 'l', 'a', 'w', 's', '_', 'i', 'n', 't', 'e', 'r', 'n', 'a', 'l', '_', 'f', 'i', 'l', 'i', 'n', 'g', '_', 'b', '1', '.', 'F', 'n', 'D', 'e', 'c', 'l', 'a', 'r', 'a', 't', 'i', 'o', 'n', 's', 'R', 'e', 'j', 'o', 'i', 'n', 'W', 'i', 't', 'h', 'o', 'u', 't', 'C', 'o', 'm', 'm', 'e', 'n', 't', 's', ' ', 'e', 'x', 'a', 'm', 'p', 'l', 'e', '.', 'c', 'o', 'm', '/', 't', 'e', 'r', 'm', 'w', 'r', 'i', 'g', 'h', 't', '/', 't', 'e', 'r', 'm', 'w', 'r', 'i', 'g', 'h', 't', '/', 'z', 'z', 'l', 'a', 'w', 's', '_', 'i', 'n', 't', 'e', 'r', 'n', 'a', 'l', '_', 'f', 'i', 'l', 'i', 'n', 'g', '_', 'b', '1', '.', 'F', 'n', 'D', 'e', 'c', 'l', 'a', 'r', 'a', 't', 'i', 'o', 'n', 's', 'N', 'e', 'v', 'e', 'r', 'L', 'o', 'n', 'g', 'e', 'r', ' ', 'e', 'x', 'a', 'm', 'p', 'l', 'e', '.', 'c', 'o', 'm', '/', 't', 'e', 'r', 'm', 'w', 'r', 'i', 'g', 'h', 't', '/', 't', 'e', 'r', 'm', 'w', 'r', 'i', 'g', 'h', 't', '/', 'z', 'z', 'l', 'a', 'w', 's', '_', 'i', 'n', 't', 'e', 'r', 'n', 'a', 'l', '_', 'f', 'i', 'l', 'i', 'n', 'g', '_', 'b', '1', '.', 'F', 'n', 'D', 'e', 'c', 'l', 'a', 'r', 'a', 't', 'i', 'o', 'n', 's', 'L', 'e', 'a', 'd', 'i', 'n', 'g', 'C', 'o', 'm', 'm', 'e', 'n', 't', 'I', 'n', 'v', 'i', 's', 'i', 'b', 'l', 'e', ' ', 'e', 'x', 'a', 'm', 'p', 'l', 'e', '.', 'c', 'o', 'm', '/', 't', 'e', 'r', 'm', 'w', 'r', 'i', 'g', 'h', 't', '/', 't', 'e', 'r', 'm', 'w', 'r', 'i', 'g', 'h', 't', '/', 'z', 'z', 'l', 'a', 'w', 's', '_', 'i', 'n', 't', 'e', 'r', 'n', 'a', 'l', '_', 'f', 'i', 'l', 'i', 'n', 'g', '_', 'b', '1', '.', 'F', 'n', 'D', 'e', 'c', 'l', 'a', 'r', 'a', 't', 'i', 'o', 'n', 's', 'Q', 'u', 'o', 't', 'e', 'd', 'V', 'a', 'l', 'u', 'e', 'I', 's', 'O', 'n', 'e', ' ', 'e', 'x', 'a', 'm', 'p', 'l', 'e', '.', 'c', 'o', 'm', '/', 't', 'e', 'r', 'm', 'w', 'r', 'i', 'g', 'h', 't', '/', 't', 'e', 'r', 'm', 'w', 'r', 'i', 'g', 'h', 't', '/', 'z', 'z', 'l', 'a', 'w', 's', '_', 'i', 'n', 't', 'e', 'r', 'n', 'a', 'l', '_', 'f', 'i', 'l', 'i', 'n', 'g', '_', 'b', '1', '.', 'F', 'n', 'C', 'h', 'i', 'n', 'e', 's', 'e', 'N', 'u', 'm', 'e', 'r', 'a', 'l', 'R', 'o', 'u', 'n', 'd', 'T', 'r', 'i', 'p', ' ', 'e', 'x', 'a', 'm', 'p', 'l', 'e', '.', 'c', 'o', 'm', '/', 't', 'e', 'r', 'm', 'w', 'r', 'i', 'g', 'h', 't', '/', 't', 'e', 'r', 'm', 'w', 'r', 'i', 'g', 'h', 't', '/', 'z', 'z', 'l', 'a', 'w', 's', '_', 'i', 'n', 't', 'e', 'r', 'n', 'a', 'l', '_', 'f', 'i', 'l', 'i', 'n', 'g', '_', 'b', '1', '.', 'F', 'n', 'C', 'h', 'i', 'n', 'e', 's', 'e', 'N', 'u', 'm', 'e', 'r', 'a', 'l', 'S', 'h', 'a', 'p', 'e', ' ', 'e', 'x', 'a', 'm', 'p', 'l', 'e', '.', 'c', 'o', 'm', '/', 't', 'e', 'r', 'm', 'w', 'r', 'i', 'g', 'h', 't', '/', 't', 'e', 'r', 'm', 'w', 'r', 'i', 'g', 'h', 't', '/', 'z', 'z', 'l', 'a', 'w', 's', '_', 'i', 'n', 't', 'e', 'r', 'n', 'a', 'l', '_', 'f', 'i', 'l', 'i', 'n', 'g', '_', 'b', '1', '.', 'F', 'n', 'C', 'h', 'i', 'n', 'e', 's', 'e', 'N', 'u', 'm', 'e', 'r', 'a', 'l', 'I', 'n', 'j', 'e', 'c', 't', 'i', 'v', 'e'] (by kernel_rfl) (by decide +kernel) (by decide +kernel)⟩
theorem may_enter : Try.prog.mayEnter = true := signs.elim fun R hR => may_of Try.prog R hR (by kernel_rfl) (by kernel_rfl) (by kernel_rfl)
theorem lifts_final : Try.prog.liftsFinal = false := signs.elim fun R hR => final_of Try.prog R hR
theorem make_cut : Try.prog.make = some .cut := signs.elim fun R hR => make_of Try.prog R hR

/-- the closed facts of a row, each by itself -/
theorem facts_of (P : Program) (f : FuncId) (fn : Func) (s : ChangeSpec) (c : OpenClaim) (k0 : c.wf (OpenSpec.ofChange s) = true) (k1 : laidOutB P = true) (k2 : mapsRowed P = true) (k3 : fn.params.all (P.readableRec ·) = true) (k4 : namedTie P c.named s.vars = true) (k5 : (c.stops == []) = true) (k6 : (P.stops == []) = true) (k7 : (c.knobs == []) = true) (k8 : (P.stopKnobs == []) = true) (k9 : (c.inPlace == P.inPlace f) = true) (k10 : (c.unfollowed == P.unfollowed f) = true) (k11 : (c.recurses == P.recurses f) = true) (k12 : (c.named == P.varsNamed f) = true) (k13 : (c.maps == (fn.params.toList ++ s.plain.varTypes P).any (P.mapsRec ·)) = true) (k14 : (c.ifaces == (fn.params.toList ++ s.plain.varTypes P).any (P.ifacesRec ·)) = true) (k15 : (c.mapsOut == P.mapsAmong fn.resultTypes.toList) = true) (k16 : (c.loops == (fn.params.toList ++ s.plain.varTypes P).any (P.loopsFrom ·)) = true) (k17 : (c.wideKeys == (fn.params.toList ++ s.plain.varTypes P ++ fn.resultTypes.toList).any (P.wideKeysFrom ·)) = true) (k18 : s.vars.all (P.varReadable ·) = true) (k19 : fn.resultTypes.all (fun t => P.readableRec t && decide (t < P.types.size)) = true) (k20 : (c.ifacesOut == fn.resultTypes.toList.any (P.ifacesRec ·)) = true) (k21 : (c.loopsOut == fn.resultTypes.toList.any (P.loopsFrom ·)) = true) (k22 : (c.plainKeys == P.plainKeys) = true) (k23 : c.shortTexts.isNone = true) (k24 : P.stopsHeard = true) (k25 : (c.kinds == (if c.domain.isEmpty then [] else fn.params.toList.map fun t => match P.underlying t with | some (.int k) => some k | _ => none)) = true) (k26 : (c.pinned == c.pinnedBy) = true) (k27 : (c.veiled == (fn.params.toList ++ s.plain.varTypes P ++ fn.resultTypes.toList).any (P.veiledRec ·)) = true) (k28 : c.veiledFits P fn.params.toList (fn.params.toList ++ s.plain.varTypes P ++ fn.resultTypes.toList) = true)
    (hm : P.mayEnter = true) (hl : P.liftsFinal = false) (cl : (c.lifted == false) = true) (hk : P.make = some .cut) (ck : c.make = .cut) : joinedFacts P f fn s c = true := by
  unfold joinedFacts
  simp only [Bool.and_eq_true]
  exact ⟨⟨⟨⟨⟨⟨⟨⟨⟨⟨⟨⟨⟨⟨⟨⟨⟨⟨⟨⟨⟨⟨⟨⟨⟨⟨⟨⟨⟨⟨⟨k0, k1⟩, k2⟩, k3⟩, k4⟩, k5⟩, k6⟩, k7⟩, k8⟩, k9⟩, k10⟩, k11⟩, k12⟩, k13⟩, k14⟩, k15⟩, k16⟩, k17⟩, k18⟩, k19⟩, k20⟩, k21⟩, k22⟩, k23⟩, k24⟩, hm⟩, (by rw [hl]; exact cl)⟩, (by rw [hk, ck]; decide)⟩, k25⟩, k26⟩, k27⟩, k28⟩
end Go.Proofs.Qxb6001104a

/-
  Qxb6600790aFacts: the closed facts that the rows' builder 'holds_of_wide' asks, a theorem each, so that the kernel gives its memory back behind each.
  The three that read the dump's head word by word ('mayEnter', 'liftsFinal', 'make') go by a lemma on its first three words: asked whole they outgrow the memory lid.
-/
import Derived.Test.Qxb6600790aRows
import Derived.JoinedOf
import Derived.KernelRfl
namespace Go.Proofs.Qxb6600790a.Facts
set_option maxRecDepth 100000

theorem words_word (a r : List Char) (h : ∀ c, c ∈ a → c ≠ ' ') : wordsSigns (a ++ ' ' :: r) = a :: wordsSigns r := by
  induction a with
  | nil => rfl
  | cons c a ih =>
    have h1 := ih (fun x hx => h x (List.mem_cons_of_mem _ hx))
    have h2 : c ≠ ' ' := h c List.mem_cons_self
    rw [List.cons_append, wordsSigns.eq_3 _ _ (fun e => h2 e), h1]

def harn : List Char := ([104, 97, 114, 110, 101, 115, 115] : List Nat).map Char.ofNat
def sum : List Char := ([102, 102, 97, 99, 53, 56, 101, 57, 102, 101, 56, 101, 102, 53, 51, 100, 49, 48, 49, 50, 52, 100, 48, 101, 55, 49, 101, 102, 98, 50, 55, 56, 100, 98, 49, 48, 49, 101, 102, 54, 50, 49, 57, 97, 98, 102, 49, 51, 99, 51, 49, 49, 102, 101, 52, 51, 101, 52, 99, 99, 53, 48, 51, 102] : List Nat).map Char.ofNat
def cut : List Char := ['c', 'u', 't']
def rest : List Char := ([97, 116, 32, 101, 120, 97, 109, 112, 108, 101, 46, 99, 111, 109, 47, 114, 111, 119, 98, 111, 117, 110, 100, 47, 114, 111, 119, 98, 111, 117, 110, 100, 47, 122, 122, 108, 97, 119, 115, 95, 114, 111, 111, 116, 95, 98, 49, 46, 70, 110, 81, 117, 101, 117, 101, 115, 87, 105, 116, 104, 68, 101, 102, 97, 117, 108, 116, 115, 73, 115, 73, 100, 101, 109, 112, 111, 116, 101, 110, 116, 32, 101, 120, 97, 109, 112, 108, 101, 46, 99, 111, 109, 47, 114, 111, 119, 98, 111, 117, 110, 100, 47, 114, 111, 119, 98, 111, 117, 110, 100, 47, 122, 122, 108, 97, 119, 115, 95, 114, 111, 111, 116, 95, 98, 49, 46, 70, 110, 81, 117, 101, 117, 101, 115, 87, 105, 116, 104, 68, 101, 102, 97, 117, 108, 116, 115, 82, 101, 116, 117, 114, 110, 115, 65, 70, 114, 101, 115, 104, 76, 105, 115, 116, 87, 105, 116, 104, 78, 111, 90, 101, 114, 111, 70, 105, 101, 108, 100, 32, 101, 120, 97, 109, 112, 108, 101, 46, 99, 111, 109, 47, 114, 111, 119, 98, 111, 117, 110, 100, 47, 114, 111, 119, 98, 111, 117, 110, 100, 47, 122, 122, 108, 97, 119, 115, 95, 114, 111, 111, 116, 95, 98, 49, 46, 70, 110, 82, 111, 116, 97, 116, 105, 111, 110, 82, 111, 117, 110, 100, 68, 101, 97, 108, 115, 69, 97, 99, 104, 73, 116, 115, 87, 101, 105, 103, 104, 116, 65, 110, 100, 82, 101, 112, 101, 97, 116, 115, 32, 101, 120, 97, 109, 112, 108, 101, 46, 99, 111, 109, 47, 114, 111, 119, 98, 111, 117, 110, 100, 47, 114, 111, 119, 98, 111, 117, 110, 100, 47, 122, 122, 108, 97, 119, 115, 95, 114, 111, 111, 116, 95, 98, 49, 46, 70, 110, 82, 111, 116, 97, 116, 105, 111, 110, 78, 101, 118, 101, 114, 68, 101, 97, 108, 115, 65, 81, 117, 101, 117, 101, 65, 87, 104, 111, 108, 101, 84, 117, 114, 110, 65, 104, 101, 97, 100] : List Nat).map Char.ofNat

theorem order : Try.prog.initOrder = String.ofList (harn ++ ' ' :: (sum ++ ' ' :: (cut ++ ' ' :: rest))) := by kernel_rfl

theorem words : wordsSigns Try.prog.initOrder.toList = harn :: sum :: cut :: wordsSigns rest := by
  rw [order, String.toList_ofList, words_word _ _ (by decide +kernel), words_word _ _ (by decide +kernel), words_word _ _ (by decide +kernel)]

theorem behind (r : List (List Char)) : behindMainWord (harn :: sum :: cut :: r) = cut :: r := by kernel_rfl

theorem strip (r : List (List Char)) : stripLifts liftWords (cut :: r) = ([], cut :: r) := by kernel_rfl

theorem lays : Try.prog.laysLater = false := by kernel_rfl
theorem refl : Try.prog.bearsReflect = false := by kernel_rfl
theorem door : Try.prog.doorFits [] = true := by kernel_rfl

theorem mayEnter_of {P : Program} {r : List (List Char)} (h : behindMainWord (wordsSigns P.initOrder.toList) = cut :: r) (h1 : P.laysLater = false) (h2 : P.bearsReflect = false) (h3 : P.doorFits [] = true) : P.mayEnter = true := by
  unfold Program.mayEnter
  rw [h]
  simp only [strip, h1, h2, h3]
  simp [cut]

theorem headLifts_of {P : Program} {r : List (List Char)} (h : behindMainWord (wordsSigns P.initOrder.toList) = cut :: r) : P.headLifts = [] := by
  unfold Program.headLifts
  rw [h]
  simp only [strip, ite_self]

theorem liftsFinal_of {P : Program} {r : List (List Char)} (h : behindMainWord (wordsSigns P.initOrder.toList) = cut :: r) : P.liftsFinal = false := by
  have hl := headLifts_of h
  unfold Program.liftsFinal
  rw [h, hl]
  simp [cut]

theorem make_of {P : Program} {r : List (List Char)} (h : behindMainWord (wordsSigns P.initOrder.toList) = cut :: r) : P.make = some .cut := by
  unfold Program.make
  rw [h]
  simp [cut]

theorem head : behindMainWord (wordsSigns Try.prog.initOrder.toList) = cut :: wordsSigns rest := by rw [words, behind]
theorem mayEnter : Try.prog.mayEnter = true := mayEnter_of head lays refl door
theorem liftsFinal : Try.prog.liftsFinal = false := liftsFinal_of head
theorem make : Try.prog.make = some .cut := make_of head

namespace fnQueuesWithDefaultsReturnsAFreshListWithNoZeroField
theorem k0 : (Rows.fnQueuesWithDefaultsReturnsAFreshListWithNoZeroFieldRow.wf (OpenSpec.ofChange Rows.fnQueuesWithDefaultsReturnsAFreshListWithNoZeroFieldSpec)) = true := by kernel_rfl
theorem k1 : (laidOutB Try.prog) = true := by kernel_rfl
theorem k2 : (mapsRowed Try.prog) = true := by kernel_rfl
theorem k3 : (Try.f4.params.all (Try.prog.readableRec ·)) = true := by kernel_rfl
theorem k4 : (namedTie Try.prog Rows.fnQueuesWithDefaultsReturnsAFreshListWithNoZeroFieldRow.named Rows.fnQueuesWithDefaultsReturnsAFreshListWithNoZeroFieldSpec.vars) = true := by kernel_rfl
theorem k5 : ((Rows.fnQueuesWithDefaultsReturnsAFreshListWithNoZeroFieldRow.stops == [])) = true := by kernel_rfl
theorem k6 : ((Try.prog.stops == [])) = true := by kernel_rfl
theorem k7 : ((Rows.fnQueuesWithDefaultsReturnsAFreshListWithNoZeroFieldRow.knobs == [])) = true := by kernel_rfl
theorem k8 : ((Try.prog.stopKnobs == [])) = true := by kernel_rfl
theorem k9 : ((Rows.fnQueuesWithDefaultsReturnsAFreshListWithNoZeroFieldRow.inPlace == Try.prog.inPlace 4)) = true := by kernel_rfl
theorem k10 : ((Rows.fnQueuesWithDefaultsReturnsAFreshListWithNoZeroFieldRow.unfollowed == Try.prog.unfollowed 4)) = true := by kernel_rfl
theorem k11 : ((Rows.fnQueuesWithDefaultsReturnsAFreshListWithNoZeroFieldRow.recurses == Try.prog.recurses 4)) = true := by kernel_rfl
theorem k12 : ((Rows.fnQueuesWithDefaultsReturnsAFreshListWithNoZeroFieldRow.named == Try.prog.varsNamed 4)) = true := by kernel_rfl
theorem k13 : ((Rows.fnQueuesWithDefaultsReturnsAFreshListWithNoZeroFieldRow.maps == (Try.f4.params.toList ++ Rows.fnQueuesWithDefaultsReturnsAFreshListWithNoZeroFieldSpec.plain.varTypes Try.prog).any (Try.prog.mapsRec ·))) = true := by kernel_rfl
theorem k14 : ((Rows.fnQueuesWithDefaultsReturnsAFreshListWithNoZeroFieldRow.ifaces == (Try.f4.params.toList ++ Rows.fnQueuesWithDefaultsReturnsAFreshListWithNoZeroFieldSpec.plain.varTypes Try.prog).any (Try.prog.ifacesRec ·))) = true := by kernel_rfl
theorem k15 : ((Rows.fnQueuesWithDefaultsReturnsAFreshListWithNoZeroFieldRow.mapsOut == Try.prog.mapsAmong Try.f4.resultTypes.toList)) = true := by kernel_rfl
theorem k16 : ((Rows.fnQueuesWithDefaultsReturnsAFreshListWithNoZeroFieldRow.loops == (Try.f4.params.toList ++ Rows.fnQueuesWithDefaultsReturnsAFreshListWithNoZeroFieldSpec.plain.varTypes Try.prog).any (Try.prog.loopsFrom ·))) = true := by kernel_rfl
theorem k17 : ((Rows.fnQueuesWithDefaultsReturnsAFreshListWithNoZeroFieldRow.wideKeys == (Try.f4.params.toList ++ Rows.fnQueuesWithDefaultsReturnsAFreshListWithNoZeroFieldSpec.plain.varTypes Try.prog ++ Try.f4.resultTypes.toList).any (Try.prog.wideKeysFrom ·))) = true := by kernel_rfl
theorem k18 : (Rows.fnQueuesWithDefaultsReturnsAFreshListWithNoZeroFieldSpec.vars.all (Try.prog.varReadable ·)) = true := by kernel_rfl
theorem k19 : (Try.f4.resultTypes.all (fun t => Try.prog.readableRec t && decide (t < Try.prog.types.size))) = true := by kernel_rfl
theorem k20 : ((Rows.fnQueuesWithDefaultsReturnsAFreshListWithNoZeroFieldRow.ifacesOut == Try.f4.resultTypes.toList.any (Try.prog.ifacesRec ·))) = true := by kernel_rfl
theorem k21 : ((Rows.fnQueuesWithDefaultsReturnsAFreshListWithNoZeroFieldRow.loopsOut == Try.f4.resultTypes.toList.any (Try.prog.loopsFrom ·))) = true := by kernel_rfl
theorem k22 : ((Rows.fnQueuesWithDefaultsReturnsAFreshListWithNoZeroFieldRow.plainKeys == Try.prog.plainKeys)) = true := by kernel_rfl
theorem k23 : (Rows.fnQueuesWithDefaultsReturnsAFreshListWithNoZeroFieldRow.shortTexts.isNone) = true := by kernel_rfl
theorem k24 : (Try.prog.stopsHeard) = true := by kernel_rfl
theorem k25 : (Try.prog.mayEnter) = true := mayEnter
theorem k26 : ((Rows.fnQueuesWithDefaultsReturnsAFreshListWithNoZeroFieldRow.lifted == Try.prog.liftsFinal)) = true := by rw [liftsFinal]; kernel_rfl
theorem k27 : ((Try.prog.make == some Rows.fnQueuesWithDefaultsReturnsAFreshListWithNoZeroFieldRow.make)) = true := by rw [make]; kernel_rfl
theorem k28 : ((Rows.fnQueuesWithDefaultsReturnsAFreshListWithNoZeroFieldRow.kinds == (if Rows.fnQueuesWithDefaultsReturnsAFreshListWithNoZeroFieldRow.domain.isEmpty then [] else Try.f4.params.toList.map fun t => match Try.prog.underlying t with | some (.int k) => some k | _ => none))) = true := by kernel_rfl
theorem k29 : ((Rows.fnQueuesWithDefaultsReturnsAFreshListWithNoZeroFieldRow.pinned == Rows.fnQueuesWithDefaultsReturnsAFreshListWithNoZeroFieldRow.pinnedBy)) = true := by kernel_rfl
theorem k30 : ((Rows.fnQueuesWithDefaultsReturnsAFreshListWithNoZeroFieldRow.veiled == (Try.f4.params.toList ++ Rows.fnQueuesWithDefaultsReturnsAFreshListWithNoZeroFieldSpec.plain.varTypes Try.prog ++ Try.f4.resultTypes.toList).any (Try.prog.veiledRec ·))) = true := by kernel_rfl
theorem k31 : (Rows.fnQueuesWithDefaultsReturnsAFreshListWithNoZeroFieldRow.veiledFits Try.prog Try.f4.params.toList (Try.f4.params.toList ++ Rows.fnQueuesWithDefaultsReturnsAFreshListWithNoZeroFieldSpec.plain.varTypes Try.prog ++ Try.f4.resultTypes.toList)) = true := by kernel_rfl
theorem closed : joinedFacts Try.pinned.checked.prog 4 Try.f4 Rows.fnQueuesWithDefaultsReturnsAFreshListWithNoZeroFieldSpec Rows.fnQueuesWithDefaultsReturnsAFreshListWithNoZeroFieldRow = true := by
  show joinedFacts Try.prog 4 Try.f4 Rows.fnQueuesWithDefaultsReturnsAFreshListWithNoZeroFieldSpec Rows.fnQueuesWithDefaultsReturnsAFreshListWithNoZeroFieldRow = true
  simp only [joinedFacts, Bool.and_eq_true]
  exact ⟨⟨⟨⟨⟨⟨⟨⟨⟨⟨⟨⟨⟨⟨⟨⟨⟨⟨⟨⟨⟨⟨⟨⟨⟨⟨⟨⟨⟨⟨⟨k0, k1⟩, k2⟩, k3⟩, k4⟩, k5⟩, k6⟩, k7⟩, k8⟩, k9⟩, k10⟩, k11⟩, k12⟩, k13⟩, k14⟩, k15⟩, k16⟩, k17⟩, k18⟩, k19⟩, k20⟩, k21⟩, k22⟩, k23⟩, k24⟩, k25⟩, k26⟩, k27⟩, k28⟩, k29⟩, k30⟩, k31⟩
end fnQueuesWithDefaultsReturnsAFreshListWithNoZeroField
namespace fnRotationRoundDealsEachItsWeightAndRepeats
theorem k0 : (Rows.fnRotationRoundDealsEachItsWeightAndRepeatsRow.wf (OpenSpec.ofChange Rows.fnRotationRoundDealsEachItsWeightAndRepeatsSpec)) = true := by kernel_rfl
theorem k1 : (laidOutB Try.prog) = true := by kernel_rfl
theorem k2 : (mapsRowed Try.prog) = true := by kernel_rfl
theorem k3 : (Try.f5.params.all (Try.prog.readableRec ·)) = true := by kernel_rfl
theorem k4 : (namedTie Try.prog Rows.fnRotationRoundDealsEachItsWeightAndRepeatsRow.named Rows.fnRotationRoundDealsEachItsWeightAndRepeatsSpec.vars) = true := by kernel_rfl
theorem k5 : ((Rows.fnRotationRoundDealsEachItsWeightAndRepeatsRow.stops == [])) = true := by kernel_rfl
theorem k6 : ((Try.prog.stops == [])) = true := by kernel_rfl
theorem k7 : ((Rows.fnRotationRoundDealsEachItsWeightAndRepeatsRow.knobs == [])) = true := by kernel_rfl
theorem k8 : ((Try.prog.stopKnobs == [])) = true := by kernel_rfl
theorem k9 : ((Rows.fnRotationRoundDealsEachItsWeightAndRepeatsRow.inPlace == Try.prog.inPlace 5)) = true := by kernel_rfl
theorem k10 : ((Rows.fnRotationRoundDealsEachItsWeightAndRepeatsRow.unfollowed == Try.prog.unfollowed 5)) = true := by kernel_rfl
theorem k11 : ((Rows.fnRotationRoundDealsEachItsWeightAndRepeatsRow.recurses == Try.prog.recurses 5)) = true := by kernel_rfl
theorem k12 : ((Rows.fnRotationRoundDealsEachItsWeightAndRepeatsRow.named == Try.prog.varsNamed 5)) = true := by kernel_rfl
theorem k13 : ((Rows.fnRotationRoundDealsEachItsWeightAndRepeatsRow.maps == (Try.f5.params.toList ++ Rows.fnRotationRoundDealsEachItsWeightAndRepeatsSpec.plain.varTypes Try.prog).any (Try.prog.mapsRec ·))) = true := by kernel_rfl
theorem k14 : ((Rows.fnRotationRoundDealsEachItsWeightAndRepeatsRow.ifaces == (Try.f5.params.toList ++ Rows.fnRotationRoundDealsEachItsWeightAndRepeatsSpec.plain.varTypes Try.prog).any (Try.prog.ifacesRec ·))) = true := by kernel_rfl
theorem k15 : ((Rows.fnRotationRoundDealsEachItsWeightAndRepeatsRow.mapsOut == Try.prog.mapsAmong Try.f5.resultTypes.toList)) = true := by kernel_rfl
theorem k16 : ((Rows.fnRotationRoundDealsEachItsWeightAndRepeatsRow.loops == (Try.f5.params.toList ++ Rows.fnRotationRoundDealsEachItsWeightAndRepeatsSpec.plain.varTypes Try.prog).any (Try.prog.loopsFrom ·))) = true := by kernel_rfl
theorem k17 : ((Rows.fnRotationRoundDealsEachItsWeightAndRepeatsRow.wideKeys == (Try.f5.params.toList ++ Rows.fnRotationRoundDealsEachItsWeightAndRepeatsSpec.plain.varTypes Try.prog ++ Try.f5.resultTypes.toList).any (Try.prog.wideKeysFrom ·))) = true := by kernel_rfl
theorem k18 : (Rows.fnRotationRoundDealsEachItsWeightAndRepeatsSpec.vars.all (Try.prog.varReadable ·)) = true := by kernel_rfl
theorem k19 : (Try.f5.resultTypes.all (fun t => Try.prog.readableRec t && decide (t < Try.prog.types.size))) = true := by kernel_rfl
theorem k20 : ((Rows.fnRotationRoundDealsEachItsWeightAndRepeatsRow.ifacesOut == Try.f5.resultTypes.toList.any (Try.prog.ifacesRec ·))) = true := by kernel_rfl
theorem k21 : ((Rows.fnRotationRoundDealsEachItsWeightAndRepeatsRow.loopsOut == Try.f5.resultTypes.toList.any (Try.prog.loopsFrom ·))) = true := by kernel_rfl
theorem k22 : ((Rows.fnRotationRoundDealsEachItsWeightAndRepeatsRow.plainKeys == Try.prog.plainKeys)) = true := by kernel_rfl
theorem k23 : (Rows.fnRotationRoundDealsEachItsWeightAndRepeatsRow.shortTexts.isNone) = true := by kernel_rfl
theorem k24 : (Try.prog.stopsHeard) = true := by kernel_rfl
theorem k25 : (Try.prog.mayEnter) = true := mayEnter
theorem k26 : ((Rows.fnRotationRoundDealsEachItsWeightAndRepeatsRow.lifted == Try.prog.liftsFinal)) = true := by rw [liftsFinal]; kernel_rfl
theorem k27 : ((Try.prog.make == some Rows.fnRotationRoundDealsEachItsWeightAndRepeatsRow.make)) = true := by rw [make]; kernel_rfl
theorem k28 : ((Rows.fnRotationRoundDealsEachItsWeightAndRepeatsRow.kinds == (if Rows.fnRotationRoundDealsEachItsWeightAndRepeatsRow.domain.isEmpty then [] else Try.f5.params.toList.map fun t => match Try.prog.underlying t with | some (.int k) => some k | _ => none))) = true := by kernel_rfl
theorem k29 : ((Rows.fnRotationRoundDealsEachItsWeightAndRepeatsRow.pinned == Rows.fnRotationRoundDealsEachItsWeightAndRepeatsRow.pinnedBy)) = true := by kernel_rfl
theorem k30 : ((Rows.fnRotationRoundDealsEachItsWeightAndRepeatsRow.veiled == (Try.f5.params.toList ++ Rows.fnRotationRoundDealsEachItsWeightAndRepeatsSpec.plain.varTypes Try.prog ++ Try.f5.resultTypes.toList).any (Try.prog.veiledRec ·))) = true := by kernel_rfl
theorem k31 : (Rows.fnRotationRoundDealsEachItsWeightAndRepeatsRow.veiledFits Try.prog Try.f5.params.toList (Try.f5.params.toList ++ Rows.fnRotationRoundDealsEachItsWeightAndRepeatsSpec.plain.varTypes Try.prog ++ Try.f5.resultTypes.toList)) = true := by kernel_rfl
theorem closed : joinedFacts Try.pinned.checked.prog 5 Try.f5 Rows.fnRotationRoundDealsEachItsWeightAndRepeatsSpec Rows.fnRotationRoundDealsEachItsWeightAndRepeatsRow = true := by
  show joinedFacts Try.prog 5 Try.f5 Rows.fnRotationRoundDealsEachItsWeightAndRepeatsSpec Rows.fnRotationRoundDealsEachItsWeightAndRepeatsRow = true
  simp only [joinedFacts, Bool.and_eq_true]
  exact ⟨⟨⟨⟨⟨⟨⟨⟨⟨⟨⟨⟨⟨⟨⟨⟨⟨⟨⟨⟨⟨⟨⟨⟨⟨⟨⟨⟨⟨⟨⟨k0, k1⟩, k2⟩, k3⟩, k4⟩, k5⟩, k6⟩, k7⟩, k8⟩, k9⟩, k10⟩, k11⟩, k12⟩, k13⟩, k14⟩, k15⟩, k16⟩, k17⟩, k18⟩, k19⟩, k20⟩, k21⟩, k22⟩, k23⟩, k24⟩, k25⟩, k26⟩, k27⟩, k28⟩, k29⟩, k30⟩, k31⟩
end fnRotationRoundDealsEachItsWeightAndRepeats
namespace fnRotationNeverDealsAQueueAWholeTurnAhead
theorem k0 : (Rows.fnRotationNeverDealsAQueueAWholeTurnAheadRow.wf (OpenSpec.ofChange Rows.fnRotationNeverDealsAQueueAWholeTurnAheadSpec)) = true := by kernel_rfl
theorem k1 : (laidOutB Try.prog) = true := by kernel_rfl
theorem k2 : (mapsRowed Try.prog) = true := by kernel_rfl
theorem k3 : (Try.f6.params.all (Try.prog.readableRec ·)) = true := by kernel_rfl
theorem k4 : (namedTie Try.prog Rows.fnRotationNeverDealsAQueueAWholeTurnAheadRow.named Rows.fnRotationNeverDealsAQueueAWholeTurnAheadSpec.vars) = true := by kernel_rfl
theorem k5 : ((Rows.fnRotationNeverDealsAQueueAWholeTurnAheadRow.stops == [])) = true := by kernel_rfl
theorem k6 : ((Try.prog.stops == [])) = true := by kernel_rfl
theorem k7 : ((Rows.fnRotationNeverDealsAQueueAWholeTurnAheadRow.knobs == [])) = true := by kernel_rfl
theorem k8 : ((Try.prog.stopKnobs == [])) = true := by kernel_rfl
theorem k9 : ((Rows.fnRotationNeverDealsAQueueAWholeTurnAheadRow.inPlace == Try.prog.inPlace 6)) = true := by kernel_rfl
theorem k10 : ((Rows.fnRotationNeverDealsAQueueAWholeTurnAheadRow.unfollowed == Try.prog.unfollowed 6)) = true := by kernel_rfl
theorem k11 : ((Rows.fnRotationNeverDealsAQueueAWholeTurnAheadRow.recurses == Try.prog.recurses 6)) = true := by kernel_rfl
theorem k12 : ((Rows.fnRotationNeverDealsAQueueAWholeTurnAheadRow.named == Try.prog.varsNamed 6)) = true := by kernel_rfl
theorem k13 : ((Rows.fnRotationNeverDealsAQueueAWholeTurnAheadRow.maps == (Try.f6.params.toList ++ Rows.fnRotationNeverDealsAQueueAWholeTurnAheadSpec.plain.varTypes Try.prog).any (Try.prog.mapsRec ·))) = true := by kernel_rfl
theorem k14 : ((Rows.fnRotationNeverDealsAQueueAWholeTurnAheadRow.ifaces == (Try.f6.params.toList ++ Rows.fnRotationNeverDealsAQueueAWholeTurnAheadSpec.plain.varTypes Try.prog).any (Try.prog.ifacesRec ·))) = true := by kernel_rfl
theorem k15 : ((Rows.fnRotationNeverDealsAQueueAWholeTurnAheadRow.mapsOut == Try.prog.mapsAmong Try.f6.resultTypes.toList)) = true := by kernel_rfl
theorem k16 : ((Rows.fnRotationNeverDealsAQueueAWholeTurnAheadRow.loops == (Try.f6.params.toList ++ Rows.fnRotationNeverDealsAQueueAWholeTurnAheadSpec.plain.varTypes Try.prog).any (Try.prog.loopsFrom ·))) = true := by kernel_rfl
theorem k17 : ((Rows.fnRotationNeverDealsAQueueAWholeTurnAheadRow.wideKeys == (Try.f6.params.toList ++ Rows.fnRotationNeverDealsAQueueAWholeTurnAheadSpec.plain.varTypes Try.prog ++ Try.f6.resultTypes.toList).any (Try.prog.wideKeysFrom ·))) = true := by kernel_rfl
theorem k18 : (Rows.fnRotationNeverDealsAQueueAWholeTurnAheadSpec.vars.all (Try.prog.varReadable ·)) = true := by kernel_rfl
theorem k19 : (Try.f6.resultTypes.all (fun t => Try.prog.readableRec t && decide (t < Try.prog.types.size))) = true := by kernel_rfl
theorem k20 : ((Rows.fnRotationNeverDealsAQueueAWholeTurnAheadRow.ifacesOut == Try.f6.resultTypes.toList.any (Try.prog.ifacesRec ·))) = true := by kernel_rfl
theorem k21 : ((Rows.fnRotationNeverDealsAQueueAWholeTurnAheadRow.loopsOut == Try.f6.resultTypes.toList.any (Try.prog.loopsFrom ·))) = true := by kernel_rfl
theorem k22 : ((Rows.fnRotationNeverDealsAQueueAWholeTurnAheadRow.plainKeys == Try.prog.plainKeys)) = true := by kernel_rfl
theorem k23 : (Rows.fnRotationNeverDealsAQueueAWholeTurnAheadRow.shortTexts.isNone) = true := by kernel_rfl
theorem k24 : (Try.prog.stopsHeard) = true := by kernel_rfl
theorem k25 : (Try.prog.mayEnter) = true := mayEnter
theorem k26 : ((Rows.fnRotationNeverDealsAQueueAWholeTurnAheadRow.lifted == Try.prog.liftsFinal)) = true := by rw [liftsFinal]; kernel_rfl
theorem k27 : ((Try.prog.make == some Rows.fnRotationNeverDealsAQueueAWholeTurnAheadRow.make)) = true := by rw [make]; kernel_rfl
theorem k28 : ((Rows.fnRotationNeverDealsAQueueAWholeTurnAheadRow.kinds == (if Rows.fnRotationNeverDealsAQueueAWholeTurnAheadRow.domain.isEmpty then [] else Try.f6.params.toList.map fun t => match Try.prog.underlying t with | some (.int k) => some k | _ => none))) = true := by kernel_rfl
theorem k29 : ((Rows.fnRotationNeverDealsAQueueAWholeTurnAheadRow.pinned == Rows.fnRotationNeverDealsAQueueAWholeTurnAheadRow.pinnedBy)) = true := by kernel_rfl
theorem k30 : ((Rows.fnRotationNeverDealsAQueueAWholeTurnAheadRow.veiled == (Try.f6.params.toList ++ Rows.fnRotationNeverDealsAQueueAWholeTurnAheadSpec.plain.varTypes Try.prog ++ Try.f6.resultTypes.toList).any (Try.prog.veiledRec ·))) = true := by kernel_rfl
theorem k31 : (Rows.fnRotationNeverDealsAQueueAWholeTurnAheadRow.veiledFits Try.prog Try.f6.params.toList (Try.f6.params.toList ++ Rows.fnRotationNeverDealsAQueueAWholeTurnAheadSpec.plain.varTypes Try.prog ++ Try.f6.resultTypes.toList)) = true := by kernel_rfl
theorem closed : joinedFacts Try.pinned.checked.prog 6 Try.f6 Rows.fnRotationNeverDealsAQueueAWholeTurnAheadSpec Rows.fnRotationNeverDealsAQueueAWholeTurnAheadRow = true := by
  show joinedFacts Try.prog 6 Try.f6 Rows.fnRotationNeverDealsAQueueAWholeTurnAheadSpec Rows.fnRotationNeverDealsAQueueAWholeTurnAheadRow = true
  simp only [joinedFacts, Bool.and_eq_true]
  exact ⟨⟨⟨⟨⟨⟨⟨⟨⟨⟨⟨⟨⟨⟨⟨⟨⟨⟨⟨⟨⟨⟨⟨⟨⟨⟨⟨⟨⟨⟨⟨k0, k1⟩, k2⟩, k3⟩, k4⟩, k5⟩, k6⟩, k7⟩, k8⟩, k9⟩, k10⟩, k11⟩, k12⟩, k13⟩, k14⟩, k15⟩, k16⟩, k17⟩, k18⟩, k19⟩, k20⟩, k21⟩, k22⟩, k23⟩, k24⟩, k25⟩, k26⟩, k27⟩, k28⟩, k29⟩, k30⟩, k31⟩
end fnRotationNeverDealsAQueueAWholeTurnAhead
end Go.Proofs.Qxb6600790a.Facts

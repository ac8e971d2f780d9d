/-
  Qxb6602539aFacts: the closed facts that the rows' builder 'holds_of_wide' asks, a theorem each, so that the kernel gives its memory back behind each.
  The three that read the dump's head word by word ('mayEnter', 'liftsFinal', 'make') go by a lemma on its first three words: asked whole they outgrow the memory lid.
-/
import Derived.Test.Qxb6602539aRows
import Derived.JoinedOf
import Derived.KernelRfl
namespace Go.Proofs.Qxb6602539a.Facts
set_option maxRecDepth 100000

theorem words_word (a r : List Char) (h : ∀ c, c ∈ a → c ≠ ' ') : wordsSigns (a ++ ' ' :: r) = a :: wordsSigns r := by
  induction a with
  | nil => rfl
  | cons c a ih =>
    have h1 := ih (fun x hx => h x (List.mem_cons_of_mem _ hx))
    have h2 : c ≠ ' ' := h c List.mem_cons_self
    rw [List.cons_append, wordsSigns.eq_3 _ _ (fun e => h2 e), h1]

def harn : List Char := ([104, 97, 114, 110, 101, 115, 115] : List Nat).map Char.ofNat
def sum : List Char := ([102, 101, 101, 100, 97, 56, 100, 48, 51, 53, 101, 55, 97, 100, 101, 48, 102, 53, 57, 97, 52, 102, 52, 99, 99, 52, 99, 101, 99, 57, 50, 100, 102, 102, 55, 51, 52, 102, 53, 54, 50, 49, 48, 57, 57, 99, 100, 56, 54, 50, 49, 98, 101, 99, 57, 101, 50, 56, 50, 55, 49, 50, 53, 48] : List Nat).map Char.ofNat
def cut : List Char := ['c', 'u', 't']
def rest : List Char := ([97, 116, 32, 101, 120, 97, 109, 112, 108, 101, 46, 99, 111, 109, 47, 122, 104, 97, 111, 115, 104, 117, 47, 122, 104, 97, 111, 115, 104, 117, 47, 122, 122, 108, 97, 119, 115, 95, 110, 117, 109, 98, 101, 114, 95, 98, 49, 46, 70, 110, 73, 115, 68, 105, 103, 105, 116, 115, 77, 97, 116, 99, 104, 101, 115, 68, 105, 103, 105, 116, 84, 97, 98, 108, 101, 32, 101, 120, 97, 109, 112, 108, 101, 46, 99, 111, 109, 47, 122, 104, 97, 111, 115, 104, 117, 47, 122, 104, 97, 111, 115, 104, 117, 47, 122, 122, 108, 97, 119, 115, 95, 110, 117, 109, 98, 101, 114, 95, 98, 49, 46, 70, 110, 73, 115, 68, 105, 103, 105, 116, 115, 67, 111, 110, 99, 97, 116, 101, 110, 97, 116, 105, 111, 110, 32, 101, 120, 97, 109, 112, 108, 101, 46, 99, 111, 109, 47, 122, 104, 97, 111, 115, 104, 117, 47, 122, 104, 97, 111, 115, 104, 117, 47, 122, 122, 108, 97, 119, 115, 95, 110, 117, 109, 98, 101, 114, 95, 98, 49, 46, 70, 110, 73, 115, 68, 105, 103, 105, 116, 115, 83, 105, 110, 103, 108, 101, 66, 121, 116, 101] : List Nat).map Char.ofNat

theorem order : Try.prog.initOrder = String.ofList (harn ++ ' ' :: (sum ++ ' ' :: (cut ++ ' ' :: rest))) := by kernel_rfl

theorem words : wordsSigns Try.prog.initOrder.toList = harn :: sum :: cut :: wordsSigns rest := by
  rw [order, String.toList_ofList, words_word _ _ (by decide +kernel), words_word _ _ (by decide +kernel), words_word _ _ (by decide +kernel)]

theorem behind (r : List (List Char)) : behindMainWord (harn :: sum :: cut :: r) = cut :: r := by kernel_rfl

theorem strip (r : List (List Char)) : stripLifts liftWords (cut :: r) = ([], cut :: r) := by kernel_rfl

theorem lays : Try.prog.laysLater = false := by kernel_rfl
theorem refl : Try.prog.bearsReflect = false := by kernel_rfl
theorem door : Try.prog.doorFits [] = true := by kernel_rfl

theorem mayEnter_of {P : Program} {r : List (List Char)} (h : behindMainWord (wordsSigns P.initOrder.toList) = cut :: r) (h1 : P.laysLater = false) (h2 : P.bearsReflect = false) (h3 : P.doorFits [] = true) : P.mayEnter = true := by
  unfold Program.mayEnter
  rw [h]
  simp only [strip, h1, h2, h3]
  simp [cut]

theorem headLifts_of {P : Program} {r : List (List Char)} (h : behindMainWord (wordsSigns P.initOrder.toList) = cut :: r) : P.headLifts = [] := by
  unfold Program.headLifts
  rw [h]
  simp only [strip, ite_self]

theorem liftsFinal_of {P : Program} {r : List (List Char)} (h : behindMainWord (wordsSigns P.initOrder.toList) = cut :: r) : P.liftsFinal = false := by
  have hl := headLifts_of h
  unfold Program.liftsFinal
  rw [h, hl]
  simp [cut]

theorem make_of {P : Program} {r : List (List Char)} (h : behindMainWord (wordsSigns P.initOrder.toList) = cut :: r) : P.make = some .cut := by
  unfold Program.make
  rw [h]
  simp [cut]

theorem head : behindMainWord (wordsSigns Try.prog.initOrder.toList) = cut :: wordsSigns rest := by rw [words, behind]
theorem mayEnter : Try.prog.mayEnter = true := mayEnter_of head lays refl door
theorem liftsFinal : Try.prog.liftsFinal = false := liftsFinal_of head
theorem make : Try.prog.make = some .cut := make_of head

namespace fnIsDigitsMatchesDigitTable
theorem k0 : (Rows.fnIsDigitsMatchesDigitTableRow.wf (OpenSpec.ofChange Rows.fnIsDigitsMatchesDigitTableSpec)) = true := by kernel_rfl
theorem k1 : (laidOutB Try.prog) = true := by kernel_rfl
theorem k2 : (mapsRowed Try.prog) = true := by kernel_rfl
theorem k3 : (Try.f3.params.all (Try.prog.readableRec ·)) = true := by kernel_rfl
theorem k4 : (namedTie Try.prog Rows.fnIsDigitsMatchesDigitTableRow.named Rows.fnIsDigitsMatchesDigitTableSpec.vars) = true := by kernel_rfl
theorem k5 : ((Rows.fnIsDigitsMatchesDigitTableRow.stops == [])) = true := by kernel_rfl
theorem k6 : ((Try.prog.stops == [])) = true := by kernel_rfl
theorem k7 : ((Rows.fnIsDigitsMatchesDigitTableRow.knobs == [])) = true := by kernel_rfl
theorem k8 : ((Try.prog.stopKnobs == [])) = true := by kernel_rfl
theorem k9 : ((Rows.fnIsDigitsMatchesDigitTableRow.inPlace == Try.prog.inPlace 3)) = true := by kernel_rfl
theorem k10 : ((Rows.fnIsDigitsMatchesDigitTableRow.unfollowed == Try.prog.unfollowed 3)) = true := by kernel_rfl
theorem k11 : ((Rows.fnIsDigitsMatchesDigitTableRow.recurses == Try.prog.recurses 3)) = true := by kernel_rfl
theorem k12 : ((Rows.fnIsDigitsMatchesDigitTableRow.named == Try.prog.varsNamed 3)) = true := by kernel_rfl
theorem k13 : ((Rows.fnIsDigitsMatchesDigitTableRow.maps == (Try.f3.params.toList ++ Rows.fnIsDigitsMatchesDigitTableSpec.plain.varTypes Try.prog).any (Try.prog.mapsRec ·))) = true := by kernel_rfl
theorem k14 : ((Rows.fnIsDigitsMatchesDigitTableRow.ifaces == (Try.f3.params.toList ++ Rows.fnIsDigitsMatchesDigitTableSpec.plain.varTypes Try.prog).any (Try.prog.ifacesRec ·))) = true := by kernel_rfl
theorem k15 : ((Rows.fnIsDigitsMatchesDigitTableRow.mapsOut == Try.prog.mapsAmong Try.f3.resultTypes.toList)) = true := by kernel_rfl
theorem k16 : ((Rows.fnIsDigitsMatchesDigitTableRow.loops == (Try.f3.params.toList ++ Rows.fnIsDigitsMatchesDigitTableSpec.plain.varTypes Try.prog).any (Try.prog.loopsFrom ·))) = true := by kernel_rfl
theorem k17 : ((Rows.fnIsDigitsMatchesDigitTableRow.wideKeys == (Try.f3.params.toList ++ Rows.fnIsDigitsMatchesDigitTableSpec.plain.varTypes Try.prog ++ Try.f3.resultTypes.toList).any (Try.prog.wideKeysFrom ·))) = true := by kernel_rfl
theorem k18 : (Rows.fnIsDigitsMatchesDigitTableSpec.vars.all (Try.prog.varReadable ·)) = true := by kernel_rfl
theorem k19 : (Try.f3.resultTypes.all (fun t => Try.prog.readableRec t && decide (t < Try.prog.types.size))) = true := by kernel_rfl
theorem k20 : ((Rows.fnIsDigitsMatchesDigitTableRow.ifacesOut == Try.f3.resultTypes.toList.any (Try.prog.ifacesRec ·))) = true := by kernel_rfl
theorem k21 : ((Rows.fnIsDigitsMatchesDigitTableRow.loopsOut == Try.f3.resultTypes.toList.any (Try.prog.loopsFrom ·))) = true := by kernel_rfl
theorem k22 : ((Rows.fnIsDigitsMatchesDigitTableRow.plainKeys == Try.prog.plainKeys)) = true := by kernel_rfl
theorem k23 : (Rows.fnIsDigitsMatchesDigitTableRow.shortTexts.isNone) = true := by kernel_rfl
theorem k24 : (Try.prog.stopsHeard) = true := by kernel_rfl
theorem k25 : (Try.prog.mayEnter) = true := mayEnter
theorem k26 : ((Rows.fnIsDigitsMatchesDigitTableRow.lifted == Try.prog.liftsFinal)) = true := by rw [liftsFinal]; kernel_rfl
theorem k27 : ((Try.prog.make == some Rows.fnIsDigitsMatchesDigitTableRow.make)) = true := by rw [make]; kernel_rfl
theorem k28 : ((Rows.fnIsDigitsMatchesDigitTableRow.kinds == (if Rows.fnIsDigitsMatchesDigitTableRow.domain.isEmpty then [] else Try.f3.params.toList.map fun t => match Try.prog.underlying t with | some (.int k) => some k | _ => none))) = true := by kernel_rfl
theorem k29 : ((Rows.fnIsDigitsMatchesDigitTableRow.pinned == Rows.fnIsDigitsMatchesDigitTableRow.pinnedBy)) = true := by kernel_rfl
theorem k30 : ((Rows.fnIsDigitsMatchesDigitTableRow.veiled == (Try.f3.params.toList ++ Rows.fnIsDigitsMatchesDigitTableSpec.plain.varTypes Try.prog ++ Try.f3.resultTypes.toList).any (Try.prog.veiledRec ·))) = true := by kernel_rfl
theorem k31 : (Rows.fnIsDigitsMatchesDigitTableRow.veiledFits Try.prog Try.f3.params.toList (Try.f3.params.toList ++ Rows.fnIsDigitsMatchesDigitTableSpec.plain.varTypes Try.prog ++ Try.f3.resultTypes.toList)) = true := by kernel_rfl
theorem closed : joinedFacts Try.pinned.checked.prog 3 Try.f3 Rows.fnIsDigitsMatchesDigitTableSpec Rows.fnIsDigitsMatchesDigitTableRow = true := by
  show joinedFacts Try.prog 3 Try.f3 Rows.fnIsDigitsMatchesDigitTableSpec Rows.fnIsDigitsMatchesDigitTableRow = true
  simp only [joinedFacts, Bool.and_eq_true]
  exact ⟨⟨⟨⟨⟨⟨⟨⟨⟨⟨⟨⟨⟨⟨⟨⟨⟨⟨⟨⟨⟨⟨⟨⟨⟨⟨⟨⟨⟨⟨⟨k0, k1⟩, k2⟩, k3⟩, k4⟩, k5⟩, k6⟩, k7⟩, k8⟩, k9⟩, k10⟩, k11⟩, k12⟩, k13⟩, k14⟩, k15⟩, k16⟩, k17⟩, k18⟩, k19⟩, k20⟩, k21⟩, k22⟩, k23⟩, k24⟩, k25⟩, k26⟩, k27⟩, k28⟩, k29⟩, k30⟩, k31⟩
end fnIsDigitsMatchesDigitTable
namespace fnIsDigitsSingleByte
theorem k0 : (Rows.fnIsDigitsSingleByteRow.wf (OpenSpec.ofChange Rows.fnIsDigitsSingleByteSpec)) = true := by kernel_rfl
theorem k1 : (laidOutB Try.prog) = true := by kernel_rfl
theorem k2 : (mapsRowed Try.prog) = true := by kernel_rfl
theorem k3 : (Try.f5.params.all (Try.prog.readableRec ·)) = true := by kernel_rfl
theorem k4 : (namedTie Try.prog Rows.fnIsDigitsSingleByteRow.named Rows.fnIsDigitsSingleByteSpec.vars) = true := by kernel_rfl
theorem k5 : ((Rows.fnIsDigitsSingleByteRow.stops == [])) = true := by kernel_rfl
theorem k6 : ((Try.prog.stops == [])) = true := by kernel_rfl
theorem k7 : ((Rows.fnIsDigitsSingleByteRow.knobs == [])) = true := by kernel_rfl
theorem k8 : ((Try.prog.stopKnobs == [])) = true := by kernel_rfl
theorem k9 : ((Rows.fnIsDigitsSingleByteRow.inPlace == Try.prog.inPlace 5)) = true := by kernel_rfl
theorem k10 : ((Rows.fnIsDigitsSingleByteRow.unfollowed == Try.prog.unfollowed 5)) = true := by kernel_rfl
theorem k11 : ((Rows.fnIsDigitsSingleByteRow.recurses == Try.prog.recurses 5)) = true := by kernel_rfl
theorem k12 : ((Rows.fnIsDigitsSingleByteRow.named == Try.prog.varsNamed 5)) = true := by kernel_rfl
theorem k13 : ((Rows.fnIsDigitsSingleByteRow.maps == (Try.f5.params.toList ++ Rows.fnIsDigitsSingleByteSpec.plain.varTypes Try.prog).any (Try.prog.mapsRec ·))) = true := by kernel_rfl
theorem k14 : ((Rows.fnIsDigitsSingleByteRow.ifaces == (Try.f5.params.toList ++ Rows.fnIsDigitsSingleByteSpec.plain.varTypes Try.prog).any (Try.prog.ifacesRec ·))) = true := by kernel_rfl
theorem k15 : ((Rows.fnIsDigitsSingleByteRow.mapsOut == Try.prog.mapsAmong Try.f5.resultTypes.toList)) = true := by kernel_rfl
theorem k16 : ((Rows.fnIsDigitsSingleByteRow.loops == (Try.f5.params.toList ++ Rows.fnIsDigitsSingleByteSpec.plain.varTypes Try.prog).any (Try.prog.loopsFrom ·))) = true := by kernel_rfl
theorem k17 : ((Rows.fnIsDigitsSingleByteRow.wideKeys == (Try.f5.params.toList ++ Rows.fnIsDigitsSingleByteSpec.plain.varTypes Try.prog ++ Try.f5.resultTypes.toList).any (Try.prog.wideKeysFrom ·))) = true := by kernel_rfl
theorem k18 : (Rows.fnIsDigitsSingleByteSpec.vars.all (Try.prog.varReadable ·)) = true := by kernel_rfl
theorem k19 : (Try.f5.resultTypes.all (fun t => Try.prog.readableRec t && decide (t < Try.prog.types.size))) = true := by kernel_rfl
theorem k20 : ((Rows.fnIsDigitsSingleByteRow.ifacesOut == Try.f5.resultTypes.toList.any (Try.prog.ifacesRec ·))) = true := by kernel_rfl
theorem k21 : ((Rows.fnIsDigitsSingleByteRow.loopsOut == Try.f5.resultTypes.toList.any (Try.prog.loopsFrom ·))) = true := by kernel_rfl
theorem k22 : ((Rows.fnIsDigitsSingleByteRow.plainKeys == Try.prog.plainKeys)) = true := by kernel_rfl
theorem k23 : (Rows.fnIsDigitsSingleByteRow.shortTexts.isNone) = true := by kernel_rfl
theorem k24 : (Try.prog.stopsHeard) = true := by kernel_rfl
theorem k25 : (Try.prog.mayEnter) = true := mayEnter
theorem k26 : ((Rows.fnIsDigitsSingleByteRow.lifted == Try.prog.liftsFinal)) = true := by rw [liftsFinal]; kernel_rfl
theorem k27 : ((Try.prog.make == some Rows.fnIsDigitsSingleByteRow.make)) = true := by rw [make]; kernel_rfl
theorem k28 : ((Rows.fnIsDigitsSingleByteRow.kinds == (if Rows.fnIsDigitsSingleByteRow.domain.isEmpty then [] else Try.f5.params.toList.map fun t => match Try.prog.underlying t with | some (.int k) => some k | _ => none))) = true := by kernel_rfl
theorem k29 : ((Rows.fnIsDigitsSingleByteRow.pinned == Rows.fnIsDigitsSingleByteRow.pinnedBy)) = true := by kernel_rfl
theorem k30 : ((Rows.fnIsDigitsSingleByteRow.veiled == (Try.f5.params.toList ++ Rows.fnIsDigitsSingleByteSpec.plain.varTypes Try.prog ++ Try.f5.resultTypes.toList).any (Try.prog.veiledRec ·))) = true := by kernel_rfl
theorem k31 : (Rows.fnIsDigitsSingleByteRow.veiledFits Try.prog Try.f5.params.toList (Try.f5.params.toList ++ Rows.fnIsDigitsSingleByteSpec.plain.varTypes Try.prog ++ Try.f5.resultTypes.toList)) = true := by kernel_rfl
theorem closed : joinedFacts Try.pinned.checked.prog 5 Try.f5 Rows.fnIsDigitsSingleByteSpec Rows.fnIsDigitsSingleByteRow = true := by
  show joinedFacts Try.prog 5 Try.f5 Rows.fnIsDigitsSingleByteSpec Rows.fnIsDigitsSingleByteRow = true
  simp only [joinedFacts, Bool.and_eq_true]
  exact ⟨⟨⟨⟨⟨⟨⟨⟨⟨⟨⟨⟨⟨⟨⟨⟨⟨⟨⟨⟨⟨⟨⟨⟨⟨⟨⟨⟨⟨⟨⟨k0, k1⟩, k2⟩, k3⟩, k4⟩, k5⟩, k6⟩, k7⟩, k8⟩, k9⟩, k10⟩, k11⟩, k12⟩, k13⟩, k14⟩, k15⟩, k16⟩, k17⟩, k18⟩, k19⟩, k20⟩, k21⟩, k22⟩, k23⟩, k24⟩, k25⟩, k26⟩, k27⟩, k28⟩, k29⟩, k30⟩, k31⟩
end fnIsDigitsSingleByte
end Go.Proofs.Qxb6602539a.Facts

/-
  Qxb6001670aFacts: the closed facts that the rows' builder 'holds_of_wide' asks, a theorem each, so that the kernel gives its memory back behind each.
  The three that read the dump's head word by word ('mayEnter', 'liftsFinal', 'make') go by a lemma on its first three words: asked whole they outgrow the memory lid.
-/
import Derived.Test.Qxb6001670aRows
import Derived.JoinedOf
import Derived.KernelRfl
namespace Go.Proofs.Qxb6001670a.Facts
set_option maxRecDepth 100000

theorem words_word (a r : List Char) (h : ∀ c, c ∈ a → c ≠ ' ') : wordsSigns (a ++ ' ' :: r) = a :: wordsSigns r := by
  induction a with
  | nil => rfl
  | cons c a ih =>
    have h1 := ih (fun x hx => h x (List.mem_cons_of_mem _ hx))
    have h2 : c ≠ ' ' := h c List.mem_cons_self
    rw [List.cons_append, wordsSigns.eq_3 _ _ (fun e => h2 e), h1]

def harn : List Char := ([104, 97, 114, 110, 101, 115, 115] : List Nat).map Char.ofNat
def sum : List Char := ([53, 101, 57, 101, 49, 49, 98, 97, 48, 52, 56, 51, 51, 99, 53, 102, 49, 48, 52, 48, 51, 102, 56, 102, 99, 102, 50, 102, 50, 48, 55, 97, 52, 49, 56, 57, 49, 100, 48, 53, 53, 101, 102, 56, 51, 49, 48, 48, 98, 56, 55, 48, 57, 52, 50, 55, 101, 49, 100, 53, 56, 101, 50, 101] : List Nat).map Char.ofNat
def cut : List Char := ['c', 'u', 't']
def rest : List Char := ([97, 116, 32, 101, 120, 97, 109, 112, 108, 101, 46, 99, 111, 109, 47, 99, 104, 114, 111, 110, 111, 114, 111, 119, 47, 99, 104, 114, 111, 110, 111, 114, 111, 119, 47, 122, 122, 108, 97, 119, 115, 95, 105, 110, 116, 101, 114, 110, 97, 108, 95, 99, 111, 108, 108, 97, 116, 105, 111, 110, 95, 103, 49, 46, 70, 110, 84, 104, 114, 101, 101, 66, 121, 116, 101, 115, 65, 116, 79, 114, 100, 101, 114, 115, 65, 115, 66, 121, 116, 101, 115, 32, 101, 120, 97, 109, 112, 108, 101, 46, 99, 111, 109, 47, 99, 104, 114, 111, 110, 111, 114, 111, 119, 47, 99, 104, 114, 111, 110, 111, 114, 111, 119, 47, 122, 122, 108, 97, 119, 115, 95, 105, 110, 116, 101, 114, 110, 97, 108, 95, 99, 111, 108, 108, 97, 116, 105, 111, 110, 95, 103, 49, 46, 70, 110, 84, 104, 114, 101, 101, 66, 121, 116, 101, 115, 65, 116, 73, 115, 76, 111, 99, 97, 108, 32, 101, 120, 97, 109, 112, 108, 101, 46, 99, 111, 109, 47, 99, 104, 114, 111, 110, 111, 114, 111, 119, 47, 99, 104, 114, 111, 110, 111, 114, 111, 119, 47, 122, 122, 108, 97, 119, 115, 95, 105, 110, 116, 101, 114, 110, 97, 108, 95, 99, 111, 108, 108, 97, 116, 105, 111, 110, 95, 103, 49, 46, 70, 110, 84, 104, 114, 101, 101, 66, 121, 116, 101, 115, 65, 116, 82, 117, 110, 101, 82, 111, 117, 110, 100, 84, 114, 105, 112, 32, 101, 120, 97, 109, 112, 108, 101, 46, 99, 111, 109, 47, 99, 104, 114, 111, 110, 111, 114, 111, 119, 47, 99, 104, 114, 111, 110, 111, 114, 111, 119, 47, 122, 122, 108, 97, 119, 115, 95, 105, 110, 116, 101, 114, 110, 97, 108, 95, 101, 110, 103, 105, 110, 101, 95, 103, 49, 46, 70, 110, 66, 108, 111, 99, 107, 115, 84, 105, 108, 101, 73, 116, 101, 109, 115, 32, 101, 120, 97, 109, 112, 108, 101, 46, 99, 111, 109, 47, 99, 104, 114, 111, 110, 111, 114, 111, 119, 47, 99, 104, 114, 111, 110, 111, 114, 111, 119, 47, 122, 122, 108, 97, 119, 115, 95, 105, 110, 116, 101, 114, 110, 97, 108, 95, 101, 110, 103, 105, 110, 101, 95, 103, 49, 46, 70, 110, 67, 111, 109, 112, 97, 114, 101, 66, 111, 111, 108, 79, 114, 100, 101, 114, 115, 70, 97, 108, 115, 101, 70, 105, 114, 115, 116, 32, 101, 120, 97, 109, 112, 108, 101, 46, 99, 111, 109, 47, 99, 104, 114, 111, 110, 111, 114, 111, 119, 47, 99, 104, 114, 111, 110, 111, 114, 111, 119, 47, 122, 122, 108, 97, 119, 115, 95, 105, 110, 116, 101, 114, 110, 97, 108, 95, 101, 110, 103, 105, 110, 101, 95, 103, 49, 46, 70, 110, 65, 102, 116, 101, 114, 82, 101, 115, 117, 109, 101, 115, 80, 97, 115, 116, 75, 101, 121, 32, 101, 120, 97, 109, 112, 108, 101, 46, 99, 111, 109, 47, 99, 104, 114, 111, 110, 111, 114, 111, 119, 47, 99, 104, 114, 111, 110, 111, 114, 111, 119, 47, 122, 122, 108, 97, 119, 115, 95, 105, 110, 116, 101, 114, 110, 97, 108, 95, 101, 110, 103, 105, 110, 101, 95, 103, 50, 46, 70, 110, 69, 109, 112, 116, 105, 101, 100, 76, 111, 103, 75, 101, 101, 112, 115, 83, 109, 97, 108, 108, 82, 111, 111, 109, 32, 101, 120, 97, 109, 112, 108, 101, 46, 99, 111, 109, 47, 99, 104, 114, 111, 110, 111, 114, 111, 119, 47, 99, 104, 114, 111, 110, 111, 114, 111, 119, 47, 122, 122, 108, 97, 119, 115, 95, 105, 110, 116, 101, 114, 110, 97, 108, 95, 101, 110, 103, 105, 110, 101, 95, 103, 50, 46, 70, 110, 69, 109, 112, 116, 105, 101, 100, 76, 111, 103, 73, 100, 101, 109, 112, 111, 116, 101, 110, 116, 32, 101, 120, 97, 109, 112, 108, 101, 46, 99, 111, 109, 47, 99, 104, 114, 111, 110, 111, 114, 111, 119, 47, 99, 104, 114, 111, 110, 111, 114, 111, 119, 47, 122, 122, 108, 97, 119, 115, 95, 105, 110, 116, 101, 114, 110, 97, 108, 95, 115, 99, 114, 105, 112, 116, 95, 103, 49, 46, 70, 110, 83, 101, 115, 115, 105, 111, 110, 78, 97, 109, 101, 73, 115, 76, 111, 110, 103, 101, 115, 116, 78, 97, 109, 101, 80, 114, 101, 102, 105, 120, 32, 101, 120, 97, 109, 112, 108, 101, 46, 99, 111, 109, 47, 99, 104, 114, 111, 110, 111, 114, 111, 119, 47, 99, 104, 114, 111, 110, 111, 114, 111, 119, 47, 122, 122, 108, 97, 119, 115, 95, 105, 110, 116, 101, 114, 110, 97, 108, 95, 115, 99, 114, 105, 112, 116, 95, 103, 49, 46, 70, 110, 83, 101, 115, 115, 105, 111, 110, 78, 97, 109, 101, 73, 115, 73, 100, 101, 109, 112, 111, 116, 101, 110, 116, 80, 114, 101, 102, 105, 120] : List Nat).map Char.ofNat

theorem order : Try.prog.initOrder = String.ofList (harn ++ ' ' :: (sum ++ ' ' :: (cut ++ ' ' :: rest))) := by kernel_rfl

theorem words : wordsSigns Try.prog.initOrder.toList = harn :: sum :: cut :: wordsSigns rest := by
  rw [order, String.toList_ofList, words_word _ _ (by decide +kernel), words_word _ _ (by decide +kernel), words_word _ _ (by decide +kernel)]

theorem behind (r : List (List Char)) : behindMainWord (harn :: sum :: cut :: r) = cut :: r := by kernel_rfl

theorem strip (r : List (List Char)) : stripLifts liftWords (cut :: r) = ([], cut :: r) := by kernel_rfl

theorem lays : Try.prog.laysLater = false := by kernel_rfl
theorem refl : Try.prog.bearsReflect = false := by kernel_rfl
theorem door : Try.prog.doorFits [] = true := by kernel_rfl

theorem mayEnter_of {P : Program} {r : List (List Char)} (h : behindMainWord (wordsSigns P.initOrder.toList) = cut :: r) (h1 : P.laysLater = false) (h2 : P.bearsReflect = false) (h3 : P.doorFits [] = true) : P.mayEnter = true := by
  unfold Program.mayEnter
  rw [h]
  simp only [strip, h1, h2, h3]
  simp [cut]

theorem headLifts_of {P : Program} {r : List (List Char)} (h : behindMainWord (wordsSigns P.initOrder.toList) = cut :: r) : P.headLifts = [] := by
  unfold Program.headLifts
  rw [h]
  simp only [strip, ite_self]

theorem liftsFinal_of {P : Program} {r : List (List Char)} (h : behindMainWord (wordsSigns P.initOrder.toList) = cut :: r) : P.liftsFinal = false := by
  have hl := headLifts_of h
  unfold Program.liftsFinal
  rw [h, hl]
  simp [cut]

theorem make_of {P : Program} {r : List (List Char)} (h : behindMainWord (wordsSigns P.initOrder.toList) = cut :: r) : P.make = some .cut := by
  unfold Program.make
  rw [h]
  simp [cut]

theorem head : behindMainWord (wordsSigns Try.prog.initOrder.toList) = cut :: wordsSigns rest := by rw [words, behind]
theorem mayEnter : Try.prog.mayEnter = true := mayEnter_of head lays refl door
theorem liftsFinal : Try.prog.liftsFinal = false := liftsFinal_of head
theorem make : Try.prog.make = some .cut := make_of head

namespace fnEmptiedLogIdempotent
theorem k0 : (Rows.fnEmptiedLogIdempotentRow.wf (OpenSpec.ofChange Rows.fnEmptiedLogIdempotentSpec)) = true := by kernel_rfl
theorem k1 : (laidOutB Try.prog) = true := by kernel_rfl
theorem k2 : (mapsRowed Try.prog) = true := by kernel_rfl
theorem k3 : (Try.f10.params.all (Try.prog.readableRec ·)) = true := by kernel_rfl
theorem k4 : (namedTie Try.prog Rows.fnEmptiedLogIdempotentRow.named Rows.fnEmptiedLogIdempotentSpec.vars) = true := by kernel_rfl
theorem k5 : ((Rows.fnEmptiedLogIdempotentRow.stops == [])) = true := by kernel_rfl
theorem k6 : ((Try.prog.stops == [])) = true := by kernel_rfl
theorem k7 : ((Rows.fnEmptiedLogIdempotentRow.knobs == [])) = true := by kernel_rfl
theorem k8 : ((Try.prog.stopKnobs == [])) = true := by kernel_rfl
theorem k9 : ((Rows.fnEmptiedLogIdempotentRow.inPlace == Try.prog.inPlace 10)) = true := by kernel_rfl
theorem k10 : ((Rows.fnEmptiedLogIdempotentRow.unfollowed == Try.prog.unfollowed 10)) = true := by kernel_rfl
theorem k11 : ((Rows.fnEmptiedLogIdempotentRow.recurses == Try.prog.recurses 10)) = true := by kernel_rfl
theorem k12 : ((Rows.fnEmptiedLogIdempotentRow.named == Try.prog.varsNamed 10)) = true := by kernel_rfl
theorem k13 : ((Rows.fnEmptiedLogIdempotentRow.maps == (Try.f10.params.toList ++ Rows.fnEmptiedLogIdempotentSpec.plain.varTypes Try.prog).any (Try.prog.mapsRec ·))) = true := by kernel_rfl
theorem k14 : ((Rows.fnEmptiedLogIdempotentRow.ifaces == (Try.f10.params.toList ++ Rows.fnEmptiedLogIdempotentSpec.plain.varTypes Try.prog).any (Try.prog.ifacesRec ·))) = true := by kernel_rfl
theorem k15 : ((Rows.fnEmptiedLogIdempotentRow.mapsOut == Try.prog.mapsAmong Try.f10.resultTypes.toList)) = true := by kernel_rfl
theorem k16 : ((Rows.fnEmptiedLogIdempotentRow.loops == (Try.f10.params.toList ++ Rows.fnEmptiedLogIdempotentSpec.plain.varTypes Try.prog).any (Try.prog.loopsFrom ·))) = true := by kernel_rfl
theorem k17 : ((Rows.fnEmptiedLogIdempotentRow.wideKeys == (Try.f10.params.toList ++ Rows.fnEmptiedLogIdempotentSpec.plain.varTypes Try.prog ++ Try.f10.resultTypes.toList).any (Try.prog.wideKeysFrom ·))) = true := by kernel_rfl
theorem k18 : (Rows.fnEmptiedLogIdempotentSpec.vars.all (Try.prog.varReadable ·)) = true := by kernel_rfl
theorem k19 : (Try.f10.resultTypes.all (fun t => Try.prog.readableRec t && decide (t < Try.prog.types.size))) = true := by kernel_rfl
theorem k20 : ((Rows.fnEmptiedLogIdempotentRow.ifacesOut == Try.f10.resultTypes.toList.any (Try.prog.ifacesRec ·))) = true := by kernel_rfl
theorem k21 : ((Rows.fnEmptiedLogIdempotentRow.loopsOut == Try.f10.resultTypes.toList.any (Try.prog.loopsFrom ·))) = true := by kernel_rfl
theorem k22 : ((Rows.fnEmptiedLogIdempotentRow.plainKeys == Try.prog.plainKeys)) = true := by kernel_rfl
theorem k23 : (Rows.fnEmptiedLogIdempotentRow.shortTexts.isNone) = true := by kernel_rfl
theorem k24 : (Try.prog.stopsHeard) = true := by kernel_rfl
theorem k25 : (Try.prog.mayEnter) = true := mayEnter
theorem k26 : ((Rows.fnEmptiedLogIdempotentRow.lifted == Try.prog.liftsFinal)) = true := by rw [liftsFinal]; kernel_rfl
theorem k27 : ((Try.prog.make == some Rows.fnEmptiedLogIdempotentRow.make)) = true := by rw [make]; kernel_rfl
theorem k28 : ((Rows.fnEmptiedLogIdempotentRow.kinds == (if Rows.fnEmptiedLogIdempotentRow.domain.isEmpty then [] else Try.f10.params.toList.map fun t => match Try.prog.underlying t with | some (.int k) => some k | _ => none))) = true := by kernel_rfl
theorem k29 : ((Rows.fnEmptiedLogIdempotentRow.pinned == Rows.fnEmptiedLogIdempotentRow.pinnedBy)) = true := by kernel_rfl
theorem k30 : ((Rows.fnEmptiedLogIdempotentRow.veiled == (Try.f10.params.toList ++ Rows.fnEmptiedLogIdempotentSpec.plain.varTypes Try.prog ++ Try.f10.resultTypes.toList).any (Try.prog.veiledRec ·))) = true := by kernel_rfl
theorem k31 : (Rows.fnEmptiedLogIdempotentRow.veiledFits Try.prog Try.f10.params.toList (Try.f10.params.toList ++ Rows.fnEmptiedLogIdempotentSpec.plain.varTypes Try.prog ++ Try.f10.resultTypes.toList)) = true := by kernel_rfl
theorem closed : joinedFacts Try.pinned.checked.prog 10 Try.f10 Rows.fnEmptiedLogIdempotentSpec Rows.fnEmptiedLogIdempotentRow = true := by
  show joinedFacts Try.prog 10 Try.f10 Rows.fnEmptiedLogIdempotentSpec Rows.fnEmptiedLogIdempotentRow = true
  simp only [joinedFacts, Bool.and_eq_true]
  exact ⟨⟨⟨⟨⟨⟨⟨⟨⟨⟨⟨⟨⟨⟨⟨⟨⟨⟨⟨⟨⟨⟨⟨⟨⟨⟨⟨⟨⟨⟨⟨k0, k1⟩, k2⟩, k3⟩, k4⟩, k5⟩, k6⟩, k7⟩, k8⟩, k9⟩, k10⟩, k11⟩, k12⟩, k13⟩, k14⟩, k15⟩, k16⟩, k17⟩, k18⟩, k19⟩, k20⟩, k21⟩, k22⟩, k23⟩, k24⟩, k25⟩, k26⟩, k27⟩, k28⟩, k29⟩, k30⟩, k31⟩
end fnEmptiedLogIdempotent
namespace fnEmptiedLogKeepsSmallRoom
theorem k0 : (Rows.fnEmptiedLogKeepsSmallRoomRow.wf (OpenSpec.ofChange Rows.fnEmptiedLogKeepsSmallRoomSpec)) = true := by kernel_rfl
theorem k1 : (laidOutB Try.prog) = true := by kernel_rfl
theorem k2 : (mapsRowed Try.prog) = true := by kernel_rfl
theorem k3 : (Try.f9.params.all (Try.prog.readableRec ·)) = true := by kernel_rfl
theorem k4 : (namedTie Try.prog Rows.fnEmptiedLogKeepsSmallRoomRow.named Rows.fnEmptiedLogKeepsSmallRoomSpec.vars) = true := by kernel_rfl
theorem k5 : ((Rows.fnEmptiedLogKeepsSmallRoomRow.stops == [])) = true := by kernel_rfl
theorem k6 : ((Try.prog.stops == [])) = true := by kernel_rfl
theorem k7 : ((Rows.fnEmptiedLogKeepsSmallRoomRow.knobs == [])) = true := by kernel_rfl
theorem k8 : ((Try.prog.stopKnobs == [])) = true := by kernel_rfl
theorem k9 : ((Rows.fnEmptiedLogKeepsSmallRoomRow.inPlace == Try.prog.inPlace 9)) = true := by kernel_rfl
theorem k10 : ((Rows.fnEmptiedLogKeepsSmallRoomRow.unfollowed == Try.prog.unfollowed 9)) = true := by kernel_rfl
theorem k11 : ((Rows.fnEmptiedLogKeepsSmallRoomRow.recurses == Try.prog.recurses 9)) = true := by kernel_rfl
theorem k12 : ((Rows.fnEmptiedLogKeepsSmallRoomRow.named == Try.prog.varsNamed 9)) = true := by kernel_rfl
theorem k13 : ((Rows.fnEmptiedLogKeepsSmallRoomRow.maps == (Try.f9.params.toList ++ Rows.fnEmptiedLogKeepsSmallRoomSpec.plain.varTypes Try.prog).any (Try.prog.mapsRec ·))) = true := by kernel_rfl
theorem k14 : ((Rows.fnEmptiedLogKeepsSmallRoomRow.ifaces == (Try.f9.params.toList ++ Rows.fnEmptiedLogKeepsSmallRoomSpec.plain.varTypes Try.prog).any (Try.prog.ifacesRec ·))) = true := by kernel_rfl
theorem k15 : ((Rows.fnEmptiedLogKeepsSmallRoomRow.mapsOut == Try.prog.mapsAmong Try.f9.resultTypes.toList)) = true := by kernel_rfl
theorem k16 : ((Rows.fnEmptiedLogKeepsSmallRoomRow.loops == (Try.f9.params.toList ++ Rows.fnEmptiedLogKeepsSmallRoomSpec.plain.varTypes Try.prog).any (Try.prog.loopsFrom ·))) = true := by kernel_rfl
theorem k17 : ((Rows.fnEmptiedLogKeepsSmallRoomRow.wideKeys == (Try.f9.params.toList ++ Rows.fnEmptiedLogKeepsSmallRoomSpec.plain.varTypes Try.prog ++ Try.f9.resultTypes.toList).any (Try.prog.wideKeysFrom ·))) = true := by kernel_rfl
theorem k18 : (Rows.fnEmptiedLogKeepsSmallRoomSpec.vars.all (Try.prog.varReadable ·)) = true := by kernel_rfl
theorem k19 : (Try.f9.resultTypes.all (fun t => Try.prog.readableRec t && decide (t < Try.prog.types.size))) = true := by kernel_rfl
theorem k20 : ((Rows.fnEmptiedLogKeepsSmallRoomRow.ifacesOut == Try.f9.resultTypes.toList.any (Try.prog.ifacesRec ·))) = true := by kernel_rfl
theorem k21 : ((Rows.fnEmptiedLogKeepsSmallRoomRow.loopsOut == Try.f9.resultTypes.toList.any (Try.prog.loopsFrom ·))) = true := by kernel_rfl
theorem k22 : ((Rows.fnEmptiedLogKeepsSmallRoomRow.plainKeys == Try.prog.plainKeys)) = true := by kernel_rfl
theorem k23 : (Rows.fnEmptiedLogKeepsSmallRoomRow.shortTexts.isNone) = true := by kernel_rfl
theorem k24 : (Try.prog.stopsHeard) = true := by kernel_rfl
theorem k25 : (Try.prog.mayEnter) = true := mayEnter
theorem k26 : ((Rows.fnEmptiedLogKeepsSmallRoomRow.lifted == Try.prog.liftsFinal)) = true := by rw [liftsFinal]; kernel_rfl
theorem k27 : ((Try.prog.make == some Rows.fnEmptiedLogKeepsSmallRoomRow.make)) = true := by rw [make]; kernel_rfl
theorem k28 : ((Rows.fnEmptiedLogKeepsSmallRoomRow.kinds == (if Rows.fnEmptiedLogKeepsSmallRoomRow.domain.isEmpty then [] else Try.f9.params.toList.map fun t => match Try.prog.underlying t with | some (.int k) => some k | _ => none))) = true := by kernel_rfl
theorem k29 : ((Rows.fnEmptiedLogKeepsSmallRoomRow.pinned == Rows.fnEmptiedLogKeepsSmallRoomRow.pinnedBy)) = true := by kernel_rfl
theorem k30 : ((Rows.fnEmptiedLogKeepsSmallRoomRow.veiled == (Try.f9.params.toList ++ Rows.fnEmptiedLogKeepsSmallRoomSpec.plain.varTypes Try.prog ++ Try.f9.resultTypes.toList).any (Try.prog.veiledRec ·))) = true := by kernel_rfl
theorem k31 : (Rows.fnEmptiedLogKeepsSmallRoomRow.veiledFits Try.prog Try.f9.params.toList (Try.f9.params.toList ++ Rows.fnEmptiedLogKeepsSmallRoomSpec.plain.varTypes Try.prog ++ Try.f9.resultTypes.toList)) = true := by kernel_rfl
theorem closed : joinedFacts Try.pinned.checked.prog 9 Try.f9 Rows.fnEmptiedLogKeepsSmallRoomSpec Rows.fnEmptiedLogKeepsSmallRoomRow = true := by
  show joinedFacts Try.prog 9 Try.f9 Rows.fnEmptiedLogKeepsSmallRoomSpec Rows.fnEmptiedLogKeepsSmallRoomRow = true
  simp only [joinedFacts, Bool.and_eq_true]
  exact ⟨⟨⟨⟨⟨⟨⟨⟨⟨⟨⟨⟨⟨⟨⟨⟨⟨⟨⟨⟨⟨⟨⟨⟨⟨⟨⟨⟨⟨⟨⟨k0, k1⟩, k2⟩, k3⟩, k4⟩, k5⟩, k6⟩, k7⟩, k8⟩, k9⟩, k10⟩, k11⟩, k12⟩, k13⟩, k14⟩, k15⟩, k16⟩, k17⟩, k18⟩, k19⟩, k20⟩, k21⟩, k22⟩, k23⟩, k24⟩, k25⟩, k26⟩, k27⟩, k28⟩, k29⟩, k30⟩, k31⟩
end fnEmptiedLogKeepsSmallRoom
namespace fnSessionNameIsLongestNamePrefix
theorem k0 : (Rows.fnSessionNameIsLongestNamePrefixRow.wf (OpenSpec.ofChange Rows.fnSessionNameIsLongestNamePrefixSpec)) = true := by kernel_rfl
theorem k1 : (laidOutB Try.prog) = true := by kernel_rfl
theorem k2 : (mapsRowed Try.prog) = true := by kernel_rfl
theorem k3 : (Try.f11.params.all (Try.prog.readableRec ·)) = true := by kernel_rfl
theorem k4 : (namedTie Try.prog Rows.fnSessionNameIsLongestNamePrefixRow.named Rows.fnSessionNameIsLongestNamePrefixSpec.vars) = true := by kernel_rfl
theorem k5 : ((Rows.fnSessionNameIsLongestNamePrefixRow.stops == [])) = true := by kernel_rfl
theorem k6 : ((Try.prog.stops == [])) = true := by kernel_rfl
theorem k7 : ((Rows.fnSessionNameIsLongestNamePrefixRow.knobs == [])) = true := by kernel_rfl
theorem k8 : ((Try.prog.stopKnobs == [])) = true := by kernel_rfl
theorem k9 : ((Rows.fnSessionNameIsLongestNamePrefixRow.inPlace == Try.prog.inPlace 11)) = true := by kernel_rfl
theorem k10 : ((Rows.fnSessionNameIsLongestNamePrefixRow.unfollowed == Try.prog.unfollowed 11)) = true := by kernel_rfl
theorem k11 : ((Rows.fnSessionNameIsLongestNamePrefixRow.recurses == Try.prog.recurses 11)) = true := by kernel_rfl
theorem k12 : ((Rows.fnSessionNameIsLongestNamePrefixRow.named == Try.prog.varsNamed 11)) = true := by kernel_rfl
theorem k13 : ((Rows.fnSessionNameIsLongestNamePrefixRow.maps == (Try.f11.params.toList ++ Rows.fnSessionNameIsLongestNamePrefixSpec.plain.varTypes Try.prog).any (Try.prog.mapsRec ·))) = true := by kernel_rfl
theorem k14 : ((Rows.fnSessionNameIsLongestNamePrefixRow.ifaces == (Try.f11.params.toList ++ Rows.fnSessionNameIsLongestNamePrefixSpec.plain.varTypes Try.prog).any (Try.prog.ifacesRec ·))) = true := by kernel_rfl
theorem k15 : ((Rows.fnSessionNameIsLongestNamePrefixRow.mapsOut == Try.prog.mapsAmong Try.f11.resultTypes.toList)) = true := by kernel_rfl
theorem k16 : ((Rows.fnSessionNameIsLongestNamePrefixRow.loops == (Try.f11.params.toList ++ Rows.fnSessionNameIsLongestNamePrefixSpec.plain.varTypes Try.prog).any (Try.prog.loopsFrom ·))) = true := by kernel_rfl
theorem k17 : ((Rows.fnSessionNameIsLongestNamePrefixRow.wideKeys == (Try.f11.params.toList ++ Rows.fnSessionNameIsLongestNamePrefixSpec.plain.varTypes Try.prog ++ Try.f11.resultTypes.toList).any (Try.prog.wideKeysFrom ·))) = true := by kernel_rfl
theorem k18 : (Rows.fnSessionNameIsLongestNamePrefixSpec.vars.all (Try.prog.varReadable ·)) = true := by kernel_rfl
theorem k19 : (Try.f11.resultTypes.all (fun t => Try.prog.readableRec t && decide (t < Try.prog.types.size))) = true := by kernel_rfl
theorem k20 : ((Rows.fnSessionNameIsLongestNamePrefixRow.ifacesOut == Try.f11.resultTypes.toList.any (Try.prog.ifacesRec ·))) = true := by kernel_rfl
theorem k21 : ((Rows.fnSessionNameIsLongestNamePrefixRow.loopsOut == Try.f11.resultTypes.toList.any (Try.prog.loopsFrom ·))) = true := by kernel_rfl
theorem k22 : ((Rows.fnSessionNameIsLongestNamePrefixRow.plainKeys == Try.prog.plainKeys)) = true := by kernel_rfl
theorem k23 : (Rows.fnSessionNameIsLongestNamePrefixRow.shortTexts.isNone) = true := by kernel_rfl
theorem k24 : (Try.prog.stopsHeard) = true := by kernel_rfl
theorem k25 : (Try.prog.mayEnter) = true := mayEnter
theorem k26 : ((Rows.fnSessionNameIsLongestNamePrefixRow.lifted == Try.prog.liftsFinal)) = true := by rw [liftsFinal]; kernel_rfl
theorem k27 : ((Try.prog.make == some Rows.fnSessionNameIsLongestNamePrefixRow.make)) = true := by rw [make]; kernel_rfl
theorem k28 : ((Rows.fnSessionNameIsLongestNamePrefixRow.kinds == (if Rows.fnSessionNameIsLongestNamePrefixRow.domain.isEmpty then [] else Try.f11.params.toList.map fun t => match Try.prog.underlying t with | some (.int k) => some k | _ => none))) = true := by kernel_rfl
theorem k29 : ((Rows.fnSessionNameIsLongestNamePrefixRow.pinned == Rows.fnSessionNameIsLongestNamePrefixRow.pinnedBy)) = true := by kernel_rfl
theorem k30 : ((Rows.fnSessionNameIsLongestNamePrefixRow.veiled == (Try.f11.params.toList ++ Rows.fnSessionNameIsLongestNamePrefixSpec.plain.varTypes Try.prog ++ Try.f11.resultTypes.toList).any (Try.prog.veiledRec ·))) = true := by kernel_rfl
theorem k31 : (Rows.fnSessionNameIsLongestNamePrefixRow.veiledFits Try.prog Try.f11.params.toList (Try.f11.params.toList ++ Rows.fnSessionNameIsLongestNamePrefixSpec.plain.varTypes Try.prog ++ Try.f11.resultTypes.toList)) = true := by kernel_rfl
theorem closed : joinedFacts Try.pinned.checked.prog 11 Try.f11 Rows.fnSessionNameIsLongestNamePrefixSpec Rows.fnSessionNameIsLongestNamePrefixRow = true := by
  show joinedFacts Try.prog 11 Try.f11 Rows.fnSessionNameIsLongestNamePrefixSpec Rows.fnSessionNameIsLongestNamePrefixRow = true
  simp only [joinedFacts, Bool.and_eq_true]
  exact ⟨⟨⟨⟨⟨⟨⟨⟨⟨⟨⟨⟨⟨⟨⟨⟨⟨⟨⟨⟨⟨⟨⟨⟨⟨⟨⟨⟨⟨⟨⟨k0, k1⟩, k2⟩, k3⟩, k4⟩, k5⟩, k6⟩, k7⟩, k8⟩, k9⟩, k10⟩, k11⟩, k12⟩, k13⟩, k14⟩, k15⟩, k16⟩, k17⟩, k18⟩, k19⟩, k20⟩, k21⟩, k22⟩, k23⟩, k24⟩, k25⟩, k26⟩, k27⟩, k28⟩, k29⟩, k30⟩, k31⟩
end fnSessionNameIsLongestNamePrefix
end Go.Proofs.Qxb6001670a.Facts

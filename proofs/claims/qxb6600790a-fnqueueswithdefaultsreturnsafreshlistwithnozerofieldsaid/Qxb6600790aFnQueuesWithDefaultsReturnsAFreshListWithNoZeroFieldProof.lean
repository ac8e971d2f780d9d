/-
  The proof of the given statement 'Rows.FnQueuesWithDefaultsReturnsAFreshListWithNoZeroFieldSaid', by the frame of the guide's shells, its first argument a slice of strings.
-/
import Derived.Test.Qxb6600790aRows
import Derived.Test.Qxb6600790aFacts
import Derived.Test.Qxb6600790aFresh
import Derived.WalkKit
import Derived.ProofKit
import Derived.OpenShut
import Derived.ShutString
import Derived.ChangeOld
import Derived.Below
import Derived.SliceStrings
namespace Go.Proofs.Qxb6600790a.fnQueuesWithDefaultsReturnsAFreshListWithNoZeroField
open Go.ChangeShapes Go.WideShapes Go.ChangeAt Go.RowKit
open Go.ChangeMaps (open_string shut_string)
set_option linter.unusedVariables false

theorem own : ownKnob Try.prog.godebug = none := by kernel_rfl
theorem laidOut : laidOutB Try.prog = true := by kernel_rfl

/-- What the walk is told of the slice of integers. -/
def IsRow (k : IntKind) (w : World) (a : Option Addr) (len cap : Nat) (zs : List Int) : Prop :=
  (a = none ∧ len = 0 ∧ cap = 0 ∧ zs = []) ∨
  ∃ x, a = some x ∧ len ≤ cap ∧ cap ≤ maxLen ∧ zs.length = cap ∧ (∀ i, i < zs.length → w.cell? (x.add i) = some (.int k (zs.getD i 0))) ∧ ∀ n ∈ zs, (Lit.int k n).wf = true

/-- What the walk is told of the slice of strings. -/
def IsStrs (w : World) (a : Option Addr) (len cap : Nat) (ss : List ByteArray) : Prop :=
  (a = none ∧ len = 0 ∧ cap = 0 ∧ ss = []) ∨
  ∃ x, a = some x ∧ len ≤ cap ∧ cap ≤ maxLen ∧ ss.length = cap ∧ (∀ i, i < ss.length → w.cell? (x.add i) = some (.string (ss.getD i ByteArray.empty))) ∧ ∀ s ∈ ss, s.size ≤ maxLen

theorem cell_block {w : World} {a : Addr} {v : Value} (h : w.cell? a = some v) : a.block < w.heap.size := by
  rcases Nat.lt_or_ge a.block w.heap.size with h1 | h1
  · exact h1
  · have : w.heap[a.block]? = none := Array.getElem?_eq_none h1
    simp [World.cell?, this] at h

theorem ints_row {w : World} {a : Option Addr} {len cap : Nat} {zs : List Int} (h : IsRow .i64 w a len cap zs) (hp : 0 < len) :
    ∃ b off, a = some ⟨b, off, none⟩ ∧ Base.Row w b off len (fun i => .int .i64 (zs.getD i 0)) := by
  rcases h with ⟨_, h, _⟩ | ⟨x, rfl, hl, hm, hz, hc, _⟩
  · omega
  · obtain ⟨b, off, rfl, hc'⟩ := ints_at hc (by omega)
    exact ⟨b, off, rfl, cell_block (hc' 0 (by omega)), fun i hi => hc' i (by omega)⟩

theorem strs_row {w : World} {a : Option Addr} {len cap : Nat} {ss : List ByteArray} (h : IsStrs w a len cap ss) (hp : 0 < len) :
    ∃ b off, a = some ⟨b, off, none⟩ ∧ Base.Row w b off len (fun i => .string (ss.getD i ByteArray.empty)) := by
  rcases h with ⟨_, h, _⟩ | ⟨x, rfl, hl, hm, hz, hc, _⟩
  · omega
  · obtain ⟨b, off, spot⟩ := x
    have hspot : spot = none := by simpa [Addr.add] using World.cell?_spot (hc 0 (by omega))
    subst hspot
    refine ⟨b, off, rfl, cell_block (hc 0 (by omega)), fun i hi => ?_⟩
    rw [← Go.WideShapes.add_plain]
    exact hc i (by omega)

theorem strs_small {w : World} {a : Option Addr} {len cap : Nat} {ss : List ByteArray} (h : IsStrs w a len cap ss) (i : Nat) : (ss.getD i ByteArray.empty).size ≤ 9223372036854775807 := by
  rcases h with ⟨_, _, _, rfl⟩ | ⟨x, _, _, _, _, _, hs⟩
  · exact Nat.zero_le _
  · by_cases hi : i < ss.length
    · have := hs (ss.getD i ByteArray.empty) (by simp [List.getD, hi])
      unfold maxLen at this
      exact this
    · have : ss.getD i ByteArray.empty = ByteArray.empty := by simp [List.getD, hi]
      rw [this]
      exact Nat.zero_le _

theorem strs_len {w : World} {a : Option Addr} {len cap : Nat} {ss : List ByteArray} (h : IsStrs w a len cap ss) : len ≤ 9223372036854775807 := by
  rcases h with ⟨_, h, _⟩ | ⟨x, _, hl, hm, _⟩
  · omega
  · unfold maxLen at hm; omega

theorem ints_len {w : World} {a : Option Addr} {len cap : Nat} {zs : List Int} (h : IsRow .i64 w a len cap zs) : len ≤ 9223372036854775807 := by
  rcases h with ⟨_, h, _⟩ | ⟨x, _, hl, hm, _⟩
  · omega
  · unfold maxLen at hm; omega

theorem walk (a0 : Option Addr) (len0 cap0 : Nat) (s0 : List ByteArray) (a1 : Option Addr) (len1 cap1 : Nat) (z1 : List Int) (w : World) (w0 : IsStrs w a0 len0 cap0 s0) (w1 : IsRow .i64 w a1 len1 cap1 z1) :
    Calls Try.prog 4 #[.slice a0 len0 cap0, .slice a1 len1 cap1] w fun e w' => e = .returned (.bool true) ∧ Below w.heap.size w w' := by
  by_cases hne : len0 = len1
  · subst hne
    by_cases h0 : len0 = 0
    · subst h0
      refine Fresh.walk_none a0 cap0 a1 cap1 w (fun h => ?_) (fun h => ?_)
      · rcases w0 with ⟨_, _, h, _⟩ | ⟨x, rfl, _⟩
        · exact h
        · cases h
      · rcases w1 with ⟨_, _, h, _⟩ | ⟨x, rfl, _⟩
        · exact h
        · cases h
    · obtain ⟨b1, o1, rfl, r1⟩ := strs_row w0 (by omega)
      obtain ⟨b2, o2, rfl, r2⟩ := ints_row w1 (by omega)
      exact Fresh.walk_some b1 o1 cap0 b2 o2 cap1 len0 _ _ w (by omega) (strs_len w0) r1 r2 (fun i _ => strs_small w0 i)
  · refine Fresh.walk_ne a0 len0 cap0 a1 len1 cap1 w (strs_len w0) (ints_len w1) ?_ hne
    by_cases h0 : len0 = 0
    · exact Or.inl h0
    · obtain ⟨b1, o1, h1, r1⟩ := strs_row w0 (by omega)
      exact Or.inr ⟨b1, o1, _, h1, r1, fun i _ => strs_small w0 i⟩

set_option maxRecDepth 100000 in
theorem lifted (os : Os) (started : os.Started) (H : Type) (enc : TypeId × Value → H) :
    ReturnsInHanded {} Try.checked os 4 .any (Rows.fnQueuesWithDefaultsReturnsAFreshListWithNoZeroFieldSpec.pre6 enc Try.prog Try.f4 Rows.fnQueuesWithDefaultsReturnsAFreshListWithNoZeroFieldRow.domain false) (Rows.fnQueuesWithDefaultsReturnsAFreshListWithNoZeroFieldSpec.post enc Try.prog Try.f4 false true false false) := by
  refine returnsInHanded_of_change (C := Try.checked) own started (by kernel_rfl) Try.func4
    (ChangeSpec.witness6 (enc := enc) (C := Try.checked) false ⟨#[], #[.slice none 0 0, .slice none 0 0], []⟩ 8 (by kernel_rfl) (by kernel_rfl) (by kernel_rfl) (by kernel_rfl)) ?_
  intro W base args ds gs before hval0 hW hcnd _
  have hval : ∀ (j : Nat) t v, Try.f4.params[j]? = some t → args[j]? = some v → Value.okWide Try.prog W .any base t v := hval0
  have hW' := hW
  obtain ⟨p, q, hA0, hV, rfl, hfz, hnd⟩ := hW
  have hA : DataW.TrodAll enc Try.prog W 0 (fun _ => true) true Try.f4.params.toList args.toList ds p := hA0
  rw [Try.params4] at hA hval
  obtain ⟨v0, vs0, d0, ds0, p0, q0, hargs, rfl, rfl, h0, r0⟩ := trodAll_cons hA
  obtain ⟨v1, vs1, d1, ds1, p1, q1, rfl, rfl, rfl, h1, r1⟩ := trodAll_cons r0
  obtain ⟨rfl, rfl, rfl⟩ := trodAll_nil r1
  obtain rfl : args = #[v0, v1] := by cases args; simp_all
  obtain ⟨rfl, rfl⟩ := trodVars_none hV
  obtain ⟨a0, len0, cap0, rfl⟩ := okWide_slice Try.underlying22 (hval 0 22 v0 rfl rfl)
  obtain ⟨a1, len1, cap1, rfl⟩ := okWide_slice Try.underlying23 (hval 1 23 v1 rfl rfl)
  have k0 := h0
  have k1 := h1
  have lt0 : ∀ x ∈ p0, x.block < W.heap.size := by obtain ⟨m, hm⟩ := k0; exact DataW.trod_lt m _ _ _ hm
  have lt1 : ∀ x ∈ p1, x.block < W.heap.size := by obtain ⟨m, hm⟩ := k1; exact DataW.trod_lt m _ _ _ hm
  obtain ⟨s0, w0⟩ : ∃ ss, IsStrs W a0 len0 cap0 ss := by
    obtain ⟨fuel, hf⟩ := h0
    rcases open_strings Try.underlying22 Try.underlying9 (by kernel_rfl) hf with ⟨hcs, _⟩ | ⟨x, l, c, ss, hcs, _, hl, hm, hz, _, hcell, hws⟩
    · simp [Value.cells] at hcs
      obtain ⟨rfl, rfl, rfl⟩ := hcs
      exact ⟨[], .inl ⟨rfl, rfl, rfl, rfl⟩⟩
    · simp [Value.cells] at hcs
      obtain ⟨rfl, rfl, rfl⟩ := hcs
      exact ⟨ss, .inr ⟨_, rfl, hl, hm, by simpa using hz, hcell, hws⟩⟩
  obtain ⟨z1, w1⟩ : ∃ zs, IsRow .i64 W a1 len1 cap1 zs := by
    obtain ⟨fuel, hf⟩ := h1
    rcases open_ints Try.underlying23 Try.underlying3 (by kernel_rfl) hf with ⟨hcs, _⟩ | ⟨x, l, c, zs, hcs, _, hl, hm, hz, _, hcell, hwz⟩
    · simp [Value.cells] at hcs
      obtain ⟨rfl, rfl, rfl⟩ := hcs
      exact ⟨[], .inl ⟨rfl, rfl, rfl, rfl⟩⟩
    · simp [Value.cells] at hcs
      obtain ⟨rfl, rfl, rfl⟩ := hcs
      exact ⟨zs, .inr ⟨_, rfl, hl, hm, by simpa using hz, hcell, hwz⟩⟩
  clear hA0 hval0
  refine (walk a0 len0 cap0 s0 a1 len1 cap1 z1 W w0 w1).mono fun e W' ⟨he, bel⟩ => ?_
  subst he
  exact ⟨_, rfl, _, _, _, [], _, [], hW', trodAll_mk1 (shut_bool Try.underlying4 _), (trodAll_cons_mk (Below.trod laidOut (by kernel_rfl) (of_decide_eq_true (by kernel_rfl)) k0 bel lt0) (trodAll_cons_mk (Below.trod laidOut (by kernel_rfl) (of_decide_eq_true (by kernel_rfl)) k1 bel lt1) trodAll_mk0)), rfl, bel.frame _, fun h => by cases h⟩

theorem over : Rows.fnQueuesWithDefaultsReturnsAFreshListWithNoZeroFieldRow.holds Try.pinned (OpenSpec.ofChange Rows.fnQueuesWithDefaultsReturnsAFreshListWithNoZeroFieldSpec) :=
  OpenClaim.holds_of_wide 4 Try.f4 rfl rfl rfl rfl rfl rfl rfl ⟨rfl, rfl, rfl, rfl, rfl⟩ rfl rfl rfl rfl rfl (by kernel_rfl) Try.func4 Facts.fnQueuesWithDefaultsReturnsAFreshListWithNoZeroField.closed
    (of_decide_eq_true (by kernel_rfl)) (by unfold Func.isWrapper; first | (rw [if_pos (by decide +kernel)]; kernel_rfl) | (rw [if_neg (by decide +kernel)]; exact ⟨rfl, rfl⟩))
    (fun os started H enc _ => lifted os started H enc)

theorem proved : Rows.FnQueuesWithDefaultsReturnsAFreshListWithNoZeroFieldSaid :=
  over
end Go.Proofs.Qxb6600790a.fnQueuesWithDefaultsReturnsAFreshListWithNoZeroField

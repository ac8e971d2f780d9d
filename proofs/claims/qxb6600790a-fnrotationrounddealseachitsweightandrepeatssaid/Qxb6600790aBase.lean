/-
  Qxb6600790aBase: words on memory; the clones' contracts.
-/
import Derived.Test.Qxb6600790aRows
import Derived.WalkKit
import Derived.ProofKit
import Derived.WalkSpells
import Derived.WalkLawsBesides
import Derived.Deep.OwnRows
import Derived.Lib.SliceRun
import Derived.Laws.CopyOwn
namespace Go.Proofs.Qxb6600790a.Base
open Go.ChangeShapes Go.WideShapes Go.ChangeAt Go.RowKit

theorem info2 : (Try.prog.info? 2).map (fun i => (i.zero, i.size, i.bytes)) = some (some (.int .i64 0), 1, 8) := by kernel_rfl
theorem info3 : (Try.prog.info? 3).map (fun i => (i.zero, i.size, i.bytes)) = some (some (.int .i64 0), 1, 8) := by kernel_rfl
theorem info9 : (Try.prog.info? 9).map (fun i => (i.zero, i.size, i.bytes)) = some (some (.string ⟨#[]⟩), 1, 16) := by kernel_rfl
theorem info32 : (Try.prog.info? 32).map (fun i => (i.zero, i.size, i.bytes)) = some (some (.agg #[.string ⟨#[]⟩, .int .i64 0]), 2, 24) := by kernel_rfl

theorem size3 : (Try.prog.info? 3).map (·.size) = some 1 := by kernel_rfl
theorem size9 : (Try.prog.info? 9).map (·.size) = some 1 := by kernel_rfl
theorem size32 : (Try.prog.info? 32).map (·.size) = some 2 := by kernel_rfl

/-- A row of n elements of one cell that lies at b, off, and reads f. -/
def Row (w : World) (b off n : Nat) (f : Nat → Value) : Prop := b < w.heap.size ∧ ∀ i, i < n → w.cell? ⟨b, off + i, none⟩ = some (f i)

theorem Row.keep {w w' : World} {b off n : Nat} {f : Nat → Value} {B : Nat} (h : Row w b off n f) (hb : Below B w w') (hB : b < B) : Row w' b off n f :=
  ⟨Nat.lt_of_lt_of_le h.1 hb.size, fun i hi => (hb.cell (p := ⟨b, off + i, none⟩) hB).trans (h.2 i hi)⟩

theorem ofRowIs {w : World} {b : Nat} {t : TypeId} {n : Nat} {f : Nat → Value} (h : w.rowIs b t n f) : Row w b 0 n f :=
  ⟨h.lt, fun i hi => by rw [Nat.zero_add]; exact h.cell hi⟩

theorem rowIs_setCells {b : Nat} {t : TypeId} {n : Nat} : ∀ (cs : List Value) (o : Nat) (w : World) (f : Nat → Value), w.rowIs b t n f → o + cs.length ≤ n →
    (w.setCells b o cs).rowIs b t n (fun j => if o ≤ j ∧ j < o + cs.length then cs.getD (j - o) default else f j)
  | [], o, w, f, h, _ => h.congr (fun i _ => by rw [if_neg (by simp)])
  | v :: r, o, w, f, h, hl => by
    rw [World.setCells]
    simp only [List.length_cons] at hl
    refine (rowIs_setCells r (o + 1) _ _ (h.set o v) (by omega)).congr (fun i hi => ?_)
    simp only [List.length_cons]
    by_cases e : i = o
    · subst e
      rw [if_neg (by omega), if_pos rfl, if_pos (by omega)]
      simp
    · by_cases e2 : o + 1 ≤ i ∧ i < o + 1 + r.length
      · rw [if_pos e2, if_pos (by omega)]
        have : i - o = (i - (o + 1)) + 1 := by omega
        rw [this, List.getD_cons_succ]
      · rw [if_neg e2, if_neg e, if_neg (by omega)]

theorem below_setCells {B b : Nat} {w0 : World} (hB : B ≤ b) : ∀ (cs : List Value) (o : Nat) (w : World), Below B w0 w → Below B w0 (w.setCells b o cs)
  | [], _, _, h => h
  | v :: r, o, w, h => by rw [World.setCells]; exact below_setCells hB r (o + 1) _ (h.setCell hB v)

theorem size_setCells (b : Nat) : ∀ (cs : List Value) (o : Nat) (w : World), (w.setCells b o cs).heap.size = w.heap.size
  | [], _, _ => rfl
  | v :: r, o, w => by rw [World.setCells, size_setCells b r (o + 1)]; simp [World.setCell]

/-- What a clone leaves: a new row of n cells that read f. -/
structure Cloned (w : World) (t : TypeId) (n : Nat) (f : Nat → Value) (w' : World) : Prop where
  row : w'.rowIs w.heap.size t n f
  below : Below w.heap.size w w'
  size : w'.heap.size = w.heap.size + 1

theorem wpList_copy_eq {P : Program} (w : World) {ops : Array Oper} {rest : List Oper} {o : Oper} {a : Act} {Q : Exit → Act → World → Prop} (hgd : o.guard = none) (d s : Operand) (dT sT : TypeId)
    (ho : o.op = .call { callee := .builtin .copy, args := #[d, s], argTypes := #[dT, sT] }) (vd vs : Value) (hd : a.eval d = vd) (hs : a.eval s = vs) (r : Value) (w' : World)
    (hrun : (Builtin.copy_ #[dT, sT] o.type #[vd, vs]).run P w = .ok r w') (h : wpList P ops Q rest (a.put o.dst r) w') : wpList P ops Q (o :: rest) a w := by
  refine wpList_plain hgd fun K hK => ?_
  unfold Oper.wp
  simp [execOp, ho, resolve, invoke, builtin, hd, hs, hrun, Result.andThen]
  exact hK _ _ h

/-- 'copy(dst, src)', elements of k cells; src long enough, dst's cells there. -/
theorem run_copy_wide {P : Program} (w : World) (dT sT ty elem : TypeId) (k b o dLen dCap : Nat) (a : Addr) (sLen sCap : Nat) (cs : List Value)
    (hu : P.underlying dT = some (.slice elem)) (hs : (P.info? elem).map (·.size) = some k) (hn : cs.length = Nat.min sLen dLen * k)
    (hsrc : ∀ j v, cs[j]? = some v → w.cell? (a.add j) = some v) (hc : ∀ j, j < cs.length → (w.cell? ⟨b, o + j, none⟩).isSome = true) (hf : ∀ j, j < cs.length → w.frozen? ⟨b, o + j, none⟩ = false) (h1 : ∀ v ∈ cs, v.oneCell' = true) :
    (Builtin.copy_ #[dT, sT] ty #[.slice (some ⟨b, o, none⟩) dLen dCap, .slice (some a) sLen sCap]).run P w = .ok (goInt (Nat.min sLen dLen)) (w.setCells b o cs) := by
  have hl := run_loadCells_list (P := P) w a cs hsrc
  have hst := run_storeCells_cells (P := P) b o cs 0 w (by simpa using hc) (by simpa using hf) h1
  cases hq : P.info? elem with
  | none => simp [hq] at hs
  | some i =>
    have hi : i.size = k := by simpa [hq] using hs
    simp [Builtin.copy_, run_underlying hu, Builtin.lenOf, Builtin.firstCells, sizeOf, typeInfo, hq, hi, ← hn, hl, hst]

theorem getD_range (n : Nat) (f : Nat → Value) (i : Nat) (h : i < n) : ((List.range n).map f).getD i default = f i := by
  simp [List.getD, h]

theorem cloned_of {w : World} {t : TypeId} {n : Nat} {zz : Value} (f : Nat → Value) :
    Cloned w t n f (((w.alloc (.cells (madeCells #[zz] n) t))).setCells w.heap.size 0 ((List.range n).map f)) := by
  refine ⟨(rowIs_setCells _ 0 _ _ (World.rowIs_made w zz n t) (by simp)).congr (fun i hi => ?_), below_setCells (Nat.le_refl _) _ _ _ ((Below.refl _ _).alloc (Nat.le_refl _) _), by rw [size_setCells]; simp⟩
  rw [if_pos (by simp; omega), Nat.sub_zero, getD_range n f i hi]

theorem copy_row {w : World} {dT sT ty elem b off n cap sCap : Nat} {zz : Value} (f : Nat → Value) (hu : Try.prog.underlying dT = some (.slice elem)) (hs : (Try.prog.info? elem).map (·.size) = some 1)
    (hr : Row w b off n f) (h1 : ∀ i, (f i).oneCell' = true) :
    (Builtin.copy_ #[dT, sT] ty #[.slice (some ⟨w.heap.size, 0, none⟩) n cap, .slice (some ⟨b, off, none⟩) n sCap]).run Try.prog (w.alloc (.cells (madeCells #[zz] n) elem)) =
      .ok (goInt n) ((w.alloc (.cells (madeCells #[zz] n) elem)).setCells w.heap.size 0 ((List.range n).map f)) := by
  have hm := World.rowIs_made w zz n elem
  have := run_copy_wide (P := Try.prog) (w.alloc (.cells (madeCells #[zz] n) elem)) dT sT ty elem 1 w.heap.size 0 n cap ⟨b, off, none⟩ n sCap ((List.range n).map f) hu hs (by simp)
    (fun j v hj => by
      have hjn : j < n := by have := (List.getElem?_eq_some_iff.1 hj).1; simpa using this
      have e : v = f j := by simpa [hjn] using hj.symm
      subst e
      rw [Go.WideShapes.add_plain]
      exact ((Below.refl w.heap.size w).alloc (Nat.le_refl _) _).cell (p := ⟨b, off + j, none⟩) hr.1 |>.trans (hr.2 j hjn))
    (fun j hj => by rw [Nat.zero_add, hm.cell (by simpa using hj)]; rfl) (fun j _ => hm.frozen _) (by simp; intro a _; exact h1 a)
  simpa using this

theorem clone_ints (b off n cap : Nat) (z : Nat → Int) (w : World) (hn : n ≤ 1048576) (hr : Row w b off n (fun i => .int .i64 (z i))) :
    Calls Try.prog 10 #[.slice (some ⟨b, off, none⟩) n cap] w fun e w' => e = .returned (.slice (some ⟨w.heap.size, 0, none⟩) n n) ∧ Cloned w 3 n (fun i => .int .i64 (z i)) w' := by
  have q23 : ∀ (w : World) (a : Option Addr) (n c n' c' : Nat), (binOp .eql 23 (.slice a n c) (.slice none n' c')).run Try.prog w = .ok (.bool a.isNone) w := fun w a n c n' c' => Lib.run_eql_slice_nil w _ _ a n c n' c' Try.underlying23
  have hmk := run_make_row' 23 3 (.int .i64 0) 8 Try.underlying23 info3 rfl .i64 .i64 n (by omega) (by omega)
  have hcp := fun ty => copy_row (w := w) (dT := 23) (sT := 23) (ty := ty) (cap := n) (sCap := cap) (zz := .int .i64 0) (fun i => .int .i64 (z i)) Try.underlying23 size3 hr (fun _ => rfl)
  have hC := cloned_of (w := w) (t := 3) (n := n) (zz := .int .i64 0) (fun i => .int .i64 (z i))
  have HC : Hid (Cloned w 3 n (fun i => .int .i64 (z i)) _) := hC
  generalize (w.alloc (.cells (madeCells #[.int .i64 0] n) 3)).setCells w.heap.size 0 ((List.range n).map fun i => .int .i64 (z i)) = w2 at hcp HC
  clear hr hC
  go_enter Try.func10, Try.ntmps10
  go_wp2
  go_ret
  exact ⟨rfl, HC.out⟩

theorem clone_strings (b off n cap : Nat) (z : Nat → ByteArray) (w : World) (hn : n ≤ 1048576) (hr : Row w b off n (fun i => .string (z i))) :
    Calls Try.prog 9 #[.slice (some ⟨b, off, none⟩) n cap] w fun e w' => e = .returned (.slice (some ⟨w.heap.size, 0, none⟩) n n) ∧ Cloned w 9 n (fun i => .string (z i)) w' := by
  have q22 : ∀ (w : World) (a : Option Addr) (n c n' c' : Nat), (binOp .eql 22 (.slice a n c) (.slice none n' c')).run Try.prog w = .ok (.bool a.isNone) w := fun w a n c n' c' => Lib.run_eql_slice_nil w _ _ a n c n' c' Try.underlying22
  have hmk := run_make_row' 22 9 (.string ⟨#[]⟩) 16 Try.underlying22 info9 rfl .i64 .i64 n (by omega) (by omega)
  have hcp := fun ty => copy_row (w := w) (dT := 22) (sT := 22) (ty := ty) (cap := n) (sCap := cap) (zz := .string ⟨#[]⟩) (fun i => .string (z i)) Try.underlying22 size9 hr (fun _ => rfl)
  have hC := cloned_of (w := w) (t := 9) (n := n) (zz := .string ⟨#[]⟩) (fun i => .string (z i))
  have HC : Hid (Cloned w 9 n (fun i => .string (z i)) _) := hC
  generalize (w.alloc (.cells (madeCells #[.string ⟨#[]⟩] n) 9)).setCells w.heap.size 0 ((List.range n).map fun i => .string (z i)) = w2 at hcp HC
  clear hr hC
  go_enter Try.func9, Try.ntmps9
  go_wp2
  go_ret
  exact ⟨rfl, HC.out⟩

/-- A clone of a slice without elements: nil, or a new row without cells. -/
theorem clone_none9 (a : Option Addr) (cap : Nat) (w : World) (h : a = none → cap = 0) :
    Calls Try.prog 9 #[.slice a 0 cap] w fun e w' => (∃ a' c', e = .returned (.slice a' 0 c')) ∧ Below w.heap.size w w' := by
  have q22 : ∀ (w : World) (a : Option Addr) (n c n' c' : Nat), (binOp .eql 22 (.slice a n c) (.slice none n' c')).run Try.prog w = .ok (.bool a.isNone) w := fun w a n c n' c' => Lib.run_eql_slice_nil w _ _ a n c n' c' Try.underlying22
  have hmk : ∀ w : World, (Instr.makeSlice 22 (.int .i64 0) (.int .i64 0)).run Try.prog w = .ok (.slice (some ⟨w.heap.size, 0, none⟩) 0 0) (w.alloc (.cells (madeCells #[.string ⟨#[]⟩] 0) 9)) := run_make_row' 22 9 (.string ⟨#[]⟩) 16 Try.underlying22 info9 rfl .i64 .i64 0 (by omega) (by omega)
  have hcp := fun (w : World) (ty : TypeId) (d a : Option Addr) (dc sc : Nat) => run_copy_none (P := Try.prog) w 22 22 ty 9 d a 0 dc 0 sc Try.underlying22 size9 rfl
  simp only [goInt] at hcp
  cases a with
  | none =>
    go_enter Try.func9, Try.ntmps9
    go_wp2
    go_ret
    exact ⟨⟨none, 0, rfl⟩, Below.refl _ _⟩
  | some x =>
    go_enter Try.func9, Try.ntmps9
    go_wp2
    go_ret
    exact ⟨⟨_, 0, rfl⟩, (Below.refl _ _).alloc (Nat.le_refl _) _⟩

theorem clone_none10 (a : Option Addr) (cap : Nat) (w : World) (h : a = none → cap = 0) :
    Calls Try.prog 10 #[.slice a 0 cap] w fun e w' => (∃ a' c', e = .returned (.slice a' 0 c')) ∧ Below w.heap.size w w' := by
  have q23 : ∀ (w : World) (a : Option Addr) (n c n' c' : Nat), (binOp .eql 23 (.slice a n c) (.slice none n' c')).run Try.prog w = .ok (.bool a.isNone) w := fun w a n c n' c' => Lib.run_eql_slice_nil w _ _ a n c n' c' Try.underlying23
  have hmk : ∀ w : World, (Instr.makeSlice 23 (.int .i64 0) (.int .i64 0)).run Try.prog w = .ok (.slice (some ⟨w.heap.size, 0, none⟩) 0 0) (w.alloc (.cells (madeCells #[.int .i64 0] 0) 3)) := run_make_row' 23 3 (.int .i64 0) 8 Try.underlying23 info3 rfl .i64 .i64 0 (by omega) (by omega)
  have hcp := fun (w : World) (ty : TypeId) (d a : Option Addr) (dc sc : Nat) => run_copy_none (P := Try.prog) w 23 23 ty 3 d a 0 dc 0 sc Try.underlying23 size3 rfl
  simp only [goInt] at hcp
  cases a with
  | none =>
    go_enter Try.func10, Try.ntmps10
    go_wp2
    go_ret
    exact ⟨⟨none, 0, rfl⟩, Below.refl _ _⟩
  | some x =>
    go_enter Try.func10, Try.ntmps10
    go_wp2
    go_ret
    exact ⟨⟨_, 0, rfl⟩, (Below.refl _ _).alloc (Nat.le_refl _) _⟩

end Go.Proofs.Qxb6600790a.Base

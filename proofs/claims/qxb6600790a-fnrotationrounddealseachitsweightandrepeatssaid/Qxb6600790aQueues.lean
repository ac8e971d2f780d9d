/-
  Qxb6600790aQueues: rows of queues; the contracts of 'zzBuildQueues' and 'queuesWithDefaults'.
-/
import Derived.Test.Qxb6600790aBase
import Derived.RegionTactic
import Derived.ChangeAlike
import Derived.Deep.QuietTactic
import Derived.BigQuiet
namespace Go.Proofs.Qxb6600790a.Queues
open Go.ChangeShapes Go.WideShapes Go.ChangeAt Go.RowKit Go.Proofs.Qxb6600790a.Base

/-- The cells of a row of queues. -/
def qv (nm : Nat → ByteArray) (wt : Nat → Int) (j : Nat) : Value := if j % 2 = 0 then .string (nm (j / 2)) else .int .i64 (wt (j / 2))

theorem qv_name (nm : Nat → ByteArray) (wt : Nat → Int) (i : Nat) : qv nm wt (i * 2) = .string (nm i) := by
  unfold qv
  rw [if_pos (by omega), show i * 2 / 2 = i by omega]
theorem qv_weight (nm : Nat → ByteArray) (wt : Nat → Int) (i : Nat) : qv nm wt (i * 2 + 1) = .int .i64 (wt i) := by
  unfold qv
  rw [if_neg (by omega), show (i * 2 + 1) / 2 = i by omega]

theorem make_qs (n : Nat) (hn : n ≤ 1048576) (w : World) :
    (Instr.makeSlice 28 (.int .i64 (n : Int)) (.int .i64 (n : Int))).run Try.prog w = .ok (.slice (some ⟨w.heap.size, 0, none⟩) n n) (w.alloc (.cells (madeCells #[.string ⟨#[]⟩, .int .i64 0] (n * 2)) 32)) := by
  obtain ⟨i, hi, hzz⟩ := Option.map_eq_some_iff.1 info32
  simp only [Prod.mk.injEq] at hzz
  obtain ⟨hz, hs, hb⟩ := hzz
  have hr := run_make (P := Try.prog) w 28 32 i _ Try.underlying28 hi hz .i64 .i64 n n (by omega) (by omega) (by rw [hb]; omega) (by omega)
  rw [hs, Int.toNat_natCast] at hr
  exact hr

theorem blk_new (w : World) (o : Obj) : (w.alloc o).heap[w.heap.size]? = some o := Go.Deep.blk_alloc_new w o

theorem rowIs_qs (w : World) (n : Nat) : (w.alloc (.cells (madeCells #[.string ⟨#[]⟩, .int .i64 0] (n * 2)) 32)).rowIs w.heap.size 32 (n * 2) (qv (fun _ => ⟨#[]⟩) (fun _ => 0)) := by
  refine ⟨_, blk_new w _, size_madeCells _ _, fun i hi => ?_⟩
  simp only [madeCells, Array.getElem?_map]
  rw [Array.getElem?_range]
  rw [if_pos hi]
  simp only [Option.map_some]
  unfold qv
  by_cases e : i % 2 = 0
  · rw [if_pos e]; simp [e]
  · rw [if_neg e]; have : i % 2 = 1 := by omega
    simp [this]

def upd {α : Type} (f : Nat → α) (k : Nat) (v : α) (i : Nat) : α := if i = k then v else f i

theorem rowIs_name {w : World} {b N : Nat} {nm : Nat → ByteArray} {wt : Nat → Int} (h : w.rowIs b 32 N (qv nm wt)) (k : Nat) (v : ByteArray) :
    (w.setCell ⟨b, k * 2, none⟩ (.string v)).rowIs b 32 N (qv (upd nm k v) wt) := by
  refine (h.set (k * 2) _).congr (fun i _ => ?_)
  unfold qv upd
  by_cases e : i = k * 2
  · subst e; rw [if_pos rfl, if_pos (by omega), if_pos (by omega)]
  · rw [if_neg e]
    by_cases e2 : i % 2 = 0
    · rw [if_pos e2, if_pos e2, if_neg (by omega)]
    · rw [if_neg e2, if_neg e2]

theorem rowIs_weight {w : World} {b N : Nat} {nm : Nat → ByteArray} {wt : Nat → Int} (h : w.rowIs b 32 N (qv nm wt)) (k : Nat) (v : Int) :
    (w.setCell ⟨b, k * 2 + 1, none⟩ (.int .i64 v)).rowIs b 32 N (qv nm (upd wt k v)) := by
  refine (h.set (k * 2 + 1) _).congr (fun i _ => ?_)
  unfold qv upd
  by_cases e : i = k * 2 + 1
  · subst e; rw [if_pos rfl, if_neg (by omega), if_pos (by omega)]
  · rw [if_neg e]
    by_cases e2 : i % 2 = 0
    · rw [if_pos e2, if_pos e2]
    · rw [if_neg e2, if_neg e2, if_neg (by omega)]

/-- What holds of the world after k rounds of 'zzBuildQueues'. -/
structure Built (w : World) (n : Nat) (nm : Nat → ByteArray) (wt : Nat → Int) (k : Nat) (wr : World) : Prop where
  row : wr.rowIs w.heap.size 32 (n * 2) (qv (fun i => if i < k then nm i else ⟨#[]⟩) (fun i => if i < k then wt i else 0))
  below : Below w.heap.size w wr
  size : wr.heap.size = w.heap.size + 1

theorem built_start (w : World) (n : Nat) (nm : Nat → ByteArray) (wt : Nat → Int) : Built w n nm wt 0 (w.alloc (.cells (madeCells #[.string ⟨#[]⟩, .int .i64 0] (n * 2)) 32)) :=
  ⟨(rowIs_qs w n).congr (fun i _ => by simp [qv]), (Below.refl _ _).alloc (Nat.le_refl _) _, by simp⟩

theorem built_step {w wr : World} {n k : Nat} {nm : Nat → ByteArray} {wt : Nat → Int} (h : Built w n nm wt k wr) :
    Built w n nm wt (k + 1) ((wr.setCell ⟨w.heap.size, k * 2, none⟩ (.string (nm k))).setCell ⟨w.heap.size, k * 2 + 1, none⟩ (.int .i64 (wt k))).drew := by
  refine ⟨((rowIs_weight (rowIs_name h.row k (nm k)) k (wt k)).drew).congr (fun i _ => ?_), (((h.below.setCell (Nat.le_refl _) _).setCell (Nat.le_refl _) _).drew), by simp [h.size]⟩
  unfold qv upd
  dsimp only
  by_cases e : i % 2 = 0
  · rw [if_pos e, if_pos e]
    by_cases e2 : i / 2 = k
    · rw [if_pos e2, e2, if_pos (by omega)]
    · rw [if_neg e2]
      by_cases e3 : i / 2 < k
      · rw [if_pos e3, if_pos (by omega)]
      · rw [if_neg e3, if_neg (by omega)]
  · rw [if_neg e, if_neg e]
    by_cases e2 : i / 2 = k
    · rw [if_pos e2, e2, if_pos (by omega)]
    · rw [if_neg e2]
      by_cases e3 : i / 2 < k
      · rw [if_pos e3, if_pos (by omega)]
      · rw [if_neg e3, if_neg (by omega)]

set_option maxHeartbeats 1000000 in
theorem build_any (b1 o1 c1 b2 o2 c2 n : Nat) (nm : Nat → ByteArray) (wt : Nat → Int) (w : World) (hn : n ≤ 1048576) (h1 : Row w b1 o1 n (fun i => .string (nm i))) (h2 : Row w b2 o2 n (fun i => .int .i64 (wt i))) :
    Calls Try.prog 11 #[.slice (some ⟨b1, o1, none⟩) n c1, .slice (some ⟨b2, o2, none⟩) n c2] w fun e w' => e = .returned (.slice (some ⟨w.heap.size, 0, none⟩) n n) ∧ Built w n nm wt n w' := by
  have hmk := make_qs n hn
  have H1 : Hid (Row w b1 o1 n (fun i => .string (nm i))) := h1
  have H2 : Hid (Row w b2 o2 n (fun i => .int .i64 (wt i))) := h2
  clear h1 h2
  go_enter Try.func11, Try.ntmps11
  go_wp2
  go_loopw [12] (fun i wr => ∃ k : Nat, k ≤ n ∧ i = .int .i64 k ∧ Built w n nm wt k wr) (fun i _ => n - (intOf i).toNat)
  case atStart => exact ⟨0, Nat.zero_le _, rfl, built_start w n nm wt⟩
  case round =>
    obtain ⟨k, hk, rfl, hB⟩ := hrel
    have HB : Hid (Built w n nm wt k wr) := hB
    by_cases hlt : k < n
    · have d1 : wr.cell? ⟨b1, o1 + k, none⟩ = some (.string (nm k)) := (hB.below.cell (p := ⟨b1, o1 + k, none⟩) H1.out.1).trans (H1.out.2 k hlt)
      have d2 : wr.cell? ⟨b2, o2 + k, none⟩ = some (.int .i64 (wt k)) := (hB.below.cell (p := ⟨b2, o2 + k, none⟩) H2.out.1).trans (H2.out.2 k hlt)
      have d3 := hB.row.cell (i := k * 2) (by omega)
      have d4 := hB.row.cell (i := k * 2 + 1) (by omega)
      have f3 := hB.row.frozen (k * 2)
      have f4 := hB.row.frozen (k * 2 + 1)
      clear hB
      go_wp2
      go_region
      go_wp2
      go_roundw
      case rel => exact ⟨k + 1, by omega, by go_num, built_step HB.out⟩
      case measure => simp [intOf]; omega
    · go_wp2
      go_ret
      obtain rfl : k = n := by omega
      exact ⟨rfl, HB.out⟩

/-- 'zzBuildQueues' over no elements. -/
theorem build_none (a1 a2 : Option Addr) (c1 c2 : Nat) (w : World) :
    Calls Try.prog 11 #[.slice a1 0 c1, .slice a2 0 c2] w fun e w' => e = .returned (.slice (some ⟨w.heap.size, 0, none⟩) 0 0) ∧ Below w.heap.size w w' := by
  have hmk : ∀ w : World, (Instr.makeSlice 28 (.int .i64 0) (.int .i64 0)).run Try.prog w = .ok (.slice (some ⟨w.heap.size, 0, none⟩) 0 0) (w.alloc (.cells (madeCells #[.string ⟨#[]⟩, .int .i64 0] (0 * 2)) 32)) := make_qs 0 (by omega)
  go_enter Try.func11, Try.ntmps11
  go_wp2
  refine wp_loop_rounds 1 ?_
  rw [rounds_succ]
  go_wp2
  go_ret
  exact ⟨rfl, (Below.refl _ _).alloc (Nat.le_refl _) _⟩

/-- What holds of the world behind k rounds of 'queuesWithDefaults': m elements, the first k of them filled. -/
def Fill (w : World) (m k : Nat) (wr : World) : Prop :=
  ∃ (nm : Nat → ByteArray) (wt : Nat → Int), wr.rowIs w.heap.size 32 (m * 2) (qv nm wt) ∧ (∀ i, i < k → (nm i).size ≠ 0 ∧ wt i ≠ 0) ∧ Below w.heap.size w wr ∧ wr.heap.size = w.heap.size + 1

theorem copy_qs {w : World} {ty b n m sCap : Nat} (nm : Nat → ByteArray) (wt : Nat → Int) (hnm : n ≤ m)
    (hr : Row w b 0 (n * 2) (qv nm wt)) :
    (Builtin.copy_ #[28, 28] ty #[.slice (some ⟨w.heap.size, 0, none⟩) m m, .slice (some ⟨b, 0, none⟩) n sCap]).run Try.prog (w.alloc (.cells (madeCells #[.string ⟨#[]⟩, .int .i64 0] (m * 2)) 32)) =
      .ok (.int .i64 n) ((w.alloc (.cells (madeCells #[.string ⟨#[]⟩, .int .i64 0] (m * 2)) 32)).setCells w.heap.size 0 ((List.range (n * 2)).map (qv nm wt))) := by
  have hm := rowIs_qs w m
  have hmin : Nat.min n m = n := Nat.min_eq_left hnm
  have := run_copy_wide (P := Try.prog) (w.alloc (.cells (madeCells #[.string ⟨#[]⟩, .int .i64 0] (m * 2)) 32)) 28 28 ty 32 2 w.heap.size 0 m m ⟨b, 0, none⟩ n sCap ((List.range (n * 2)).map (qv nm wt)) Try.underlying28 size32 (by rw [hmin]; simp)
    (fun j v hj => by
      have hjn : j < n * 2 := by have := (List.getElem?_eq_some_iff.1 hj).1; simpa using this
      have e : v = qv nm wt j := by simpa [hjn] using hj.symm
      subst e
      rw [Go.WideShapes.add_plain]
      exact ((Below.refl w.heap.size w).alloc (Nat.le_refl _) _).cell (p := ⟨b, 0 + j, none⟩) hr.1 |>.trans (hr.2 j hjn))
    (fun j hj => by rw [Nat.zero_add, hm.cell (by simp at hj; omega)]; rfl) (fun j _ => hm.frozen _) (by
      intro v hv
      obtain ⟨a, _, rfl⟩ := List.mem_map.1 hv
      unfold qv
      split <;> rfl)
  rw [hmin] at this
  exact this

theorem fill_start {w : World} {n m : Nat} (nm : Nat → ByteArray) (wt : Nat → Int) (hnm : n ≤ m) :
    Fill w m 0 ((w.alloc (.cells (madeCells #[.string ⟨#[]⟩, .int .i64 0] (m * 2)) 32)).setCells w.heap.size 0 ((List.range (n * 2)).map (qv nm wt))) := by
  refine ⟨fun i => if i < n then nm i else ⟨#[]⟩, fun i => if i < n then wt i else 0, (rowIs_setCells _ 0 _ _ (rowIs_qs w m) (by simp; omega)).congr (fun i hi => ?_), fun i hi => absurd hi (by omega), below_setCells (Nat.le_refl _) _ _ _ ((Below.refl _ _).alloc (Nat.le_refl _) _), by rw [size_setCells]; simp⟩
  by_cases h : i < n * 2
  · rw [if_pos (by simp; omega), Nat.sub_zero, getD_range _ _ _ h]
    have hh : i / 2 < n := by omega
    unfold qv
    dsimp only
    rw [if_pos hh, if_pos hh]
  · rw [if_neg (by simp; omega)]
    have hh : ¬ i / 2 < n := by omega
    unfold qv
    dsimp only
    rw [if_neg hh, if_neg hh]

theorem fill_start0 {w : World} : Fill w 1 0 (w.alloc (.cells (madeCells #[.string ⟨#[]⟩, .int .i64 0] (1 * 2)) 32)) :=
  ⟨_, _, rowIs_qs w 1, fun i hi => absurd hi (by omega), (Below.refl _ _).alloc (Nat.le_refl _) _, by simp⟩

theorem isEmpty_of (s : ByteArray) (h : s.size = 0) : s.toList.isEmpty = true := by
  rw [ByteArray.toList_eq]
  have : s.data.size = 0 := h
  rw [List.isEmpty_iff_length_eq_zero, Array.length_toList, this]
theorem notEmpty_of (s : ByteArray) (h : s.size ≠ 0) : s.toList.isEmpty = false := by
  rw [ByteArray.toList_eq]
  have h' : s.data.size ≠ 0 := h
  rw [Bool.eq_false_iff]
  intro e
  rw [List.isEmpty_iff_length_eq_zero, Array.length_toList] at e
  exact h' e

def dflt : ByteArray := ⟨#[100, 101, 102, 97, 117, 108, 116]⟩

theorem good_step {nm nm' : Nat → ByteArray} {wt wt' : Nat → Int} {k : Nat} (h : ∀ i, i < k → (nm i).size ≠ 0 ∧ wt i ≠ 0) (hn : ∀ i, i < k → nm' i = nm i) (hw : ∀ i, i < k → wt' i = wt i)
    (h1 : (nm' k).size ≠ 0) (h2 : wt' k ≠ 0) : ∀ i, i < k + 1 → (nm' i).size ≠ 0 ∧ wt' i ≠ 0 := by
  intro i hi
  rcases Nat.lt_or_ge i k with e | e
  · rw [hn i e, hw i e]; exact h i e
  · have : i = k := by omega
    subst this
    exact ⟨h1, h2⟩

theorem upd_at {α : Type} (f : Nat → α) (k : Nat) (v : α) : upd f k v k = v := if_pos rfl
theorem upd_ne {α : Type} (f : Nat → α) (k : Nat) (v : α) (i : Nat) (h : i < k) : upd f k v i = f i := if_neg (by omega)

set_option maxHeartbeats 1000000 in
/-- 'queuesWithDefaults' from its copy on, for m elements. -/
theorem qwd_some (b n sCap : Nat) (nm : Nat → ByteArray) (wt : Nat → Int) (w : World) (hn : n ≤ 1048576) (h0 : 1 ≤ n) (hr : Row w b 0 (n * 2) (qv nm wt)) :
    Calls Try.prog 20 #[.slice (some ⟨b, 0, none⟩) n sCap] w fun e w' => e = .returned (.slice (some ⟨w.heap.size, 0, none⟩) n n) ∧ Fill w n n w' := by
  have hmk := make_qs n hn
  have hcp := fun ty => copy_qs (w := w) (ty := ty) (b := b) (n := n) (m := n) (sCap := sCap) nm wt (Nat.le_refl _) hr
  have hC := fill_start (w := w) (n := n) (m := n) nm wt (Nat.le_refl _)
  have HC : Hid (Fill w n 0 _) := hC
  generalize ((w.alloc (.cells (madeCells #[.string ⟨#[]⟩, .int .i64 0] (n * 2)) 32)).setCells w.heap.size 0 ((List.range (n * 2)).map (qv nm wt))) = w2 at hcp HC
  clear hr hC
  go_enter Try.func20, Try.ntmps20
  go_wp2
  go_loopw [14] (fun i wr => ∃ k : Nat, k ≤ n ∧ i = .int .i64 k ∧ Fill w n k wr) (fun i _ => n - (intOf i).toNat)
  case atStart => exact ⟨0, Nat.zero_le _, rfl, HC.out⟩
  case round =>
    obtain ⟨k, hk, rfl, hF⟩ := hrel
    have HF : Hid (Fill w n k wr) := hF
    by_cases hlt : k < n
    · obtain ⟨nm1, wt1, row, good, bel, siz⟩ := hF
      have HG : Hid (∀ i, i < k → (nm1 i).size ≠ 0 ∧ wt1 i ≠ 0) := good
      have HS : Hid (wr.heap.size = w.heap.size + 1) := siz
      have HR : Hid (wr.rowIs w.heap.size 32 (n * 2) (qv nm1 wt1)) := row
      have d0 := row.cell (i := k * 2) (by omega)
      have d1 := row.cell (i := k * 2 + 1) (by omega)
      have f0 := row.frozen (k * 2)
      have f1 := row.frozen (k * 2 + 1)
      rw [qv_name] at d0
      rw [qv_weight] at d1
      clear good siz row
      by_cases hs : (nm1 k).size = 0
      · have e1 := isEmpty_of _ hs
        by_cases hw : wt1 k = 0
        · have e2 : (wt1 k == 0) = true := by rw [beq_iff_eq]; exact hw
          clear hs hw
          go_wp2
          go_roundw
          case rel => exact ⟨k + 1, by omega, by go_num, _, _, rowIs_weight (rowIs_name HR.out k dflt) k 1, good_step HG.out (fun i hi => upd_ne _ _ _ i hi) (fun i hi => upd_ne _ _ _ i hi) (by rw [upd_at]; decide) (by rw [upd_at]; decide), (bel.setCell (Nat.le_refl _) _).setCell (Nat.le_refl _) _, by simp [HS.out]⟩
          case measure => simp [intOf]; omega
        · have e2 : (wt1 k == 0) = false := by rw [beq_eq_false_iff_ne]; exact hw
          have HW : Hid (wt1 k ≠ 0) := hw
          clear hs hw
          go_wp2
          go_roundw
          case rel => exact ⟨k + 1, by omega, by go_num, _, _, rowIs_name HR.out k dflt, good_step HG.out (fun i hi => upd_ne _ _ _ i hi) (fun i hi => rfl) (by rw [upd_at]; decide) HW.out, bel.setCell (Nat.le_refl _) _, by simp [HS.out]⟩
          case measure => simp [intOf]; omega
      · have e1 := notEmpty_of _ hs
        have HZ : Hid ((nm1 k).size ≠ 0) := hs
        by_cases hw : wt1 k = 0
        · have e2 : (wt1 k == 0) = true := by rw [beq_iff_eq]; exact hw
          clear hs hw
          go_wp2
          go_roundw
          case rel => exact ⟨k + 1, by omega, by go_num, _, _, rowIs_weight HR.out k 1, good_step HG.out (fun i hi => rfl) (fun i hi => upd_ne _ _ _ i hi) HZ.out (by rw [upd_at]; decide), bel.setCell (Nat.le_refl _) _, by simp [HS.out]⟩
          case measure => simp [intOf]; omega
        · have e2 : (wt1 k == 0) = false := by rw [beq_eq_false_iff_ne]; exact hw
          have HW : Hid (wt1 k ≠ 0) := hw
          clear hs hw
          go_wp2
          go_roundw
          case rel => exact ⟨k + 1, by omega, by go_num, _, _, HR.out, good_step HG.out (fun i hi => rfl) (fun i hi => rfl) HZ.out HW.out, bel, HS.out⟩
          case measure => simp [intOf]; omega
    · go_wp2
      go_ret
      obtain rfl : k = n := by omega
      exact ⟨rfl, HF.out⟩

theorem run_copy_none_wide {P : Program} (w : World) (dT sT ty elem : TypeId) (k : Nat) (d a : Option Addr) (dLen dCap sLen sCap : Nat) (hu : P.underlying dT = some (.slice elem)) (hs : (P.info? elem).map (·.size) = some k) (hn : Nat.min sLen dLen = 0) :
    (Builtin.copy_ #[dT, sT] ty #[.slice d dLen dCap, .slice a sLen sCap]).run P w = .ok (.int .i64 0) w := by
  cases hq : P.info? elem with
  | none => simp [hq] at hs
  | some i =>
    have hl : ∀ (x : Addr), (loadCells x 0).run P w = .ok #[] w := fun x => by simpa using run_loadCells_list (P := P) w x [] (by simp)
    cases d <;> cases a <;> simp [Builtin.copy_, run_underlying hu, Builtin.lenOf, Builtin.firstCells, sizeOf, typeInfo, hq, hn, storeCells, hl, goInt]

set_option maxHeartbeats 1000000 in
/-- 'queuesWithDefaults' of no elements: one queue. -/
theorem qwd_none (a : Option Addr) (sCap : Nat) (w : World) :
    Calls Try.prog 20 #[.slice a 0 sCap] w fun e w' => e = .returned (.slice (some ⟨w.heap.size, 0, none⟩) 1 1) ∧ Fill w 1 1 w' := by
  have hmk : ∀ w : World, (Instr.makeSlice 28 (.int .i64 1) (.int .i64 1)).run Try.prog w = .ok (.slice (some ⟨w.heap.size, 0, none⟩) 1 1) (w.alloc (.cells (madeCells #[.string ⟨#[]⟩, .int .i64 0] (1 * 2)) 32)) := make_qs 1 (by omega)
  have hC := fill_start0 (w := w)
  have HC : Hid (Fill w 1 0 _) := hC
  generalize (.cells (madeCells #[.string ⟨#[]⟩, .int .i64 0] (1 * 2)) 32 : Obj) = O at hmk HC
  have hcp := fun ty => run_copy_none_wide (P := Try.prog) (w.alloc O) 28 28 ty 32 2 (some ⟨w.heap.size, 0, none⟩) a 1 1 0 sCap Try.underlying28 size32 rfl
  clear hC
  go_enter Try.func20, Try.ntmps20
  go_wp2
  go_loopw [14] (fun i wr => ∃ k : Nat, k ≤ 1 ∧ i = .int .i64 k ∧ Fill w 1 k wr) (fun i _ => 1 - (intOf i).toNat)
  case atStart => exact ⟨0, Nat.zero_le _, rfl, HC.out⟩
  case round =>
    obtain ⟨k, hk, rfl, hF⟩ := hrel
    have HF : Hid (Fill w 1 k wr) := hF
    by_cases hlt : k < 1
    · obtain ⟨nm1, wt1, row, good, bel, siz⟩ := hF
      have HG : Hid (∀ i, i < k → (nm1 i).size ≠ 0 ∧ wt1 i ≠ 0) := good
      have HS : Hid (wr.heap.size = w.heap.size + 1) := siz
      have HR : Hid (wr.rowIs w.heap.size 32 (1 * 2) (qv nm1 wt1)) := row
      have d0 := row.cell (i := k * 2) (by omega)
      have d1 := row.cell (i := k * 2 + 1) (by omega)
      have f0 := row.frozen (k * 2)
      have f1 := row.frozen (k * 2 + 1)
      rw [qv_name] at d0
      rw [qv_weight] at d1
      clear good siz row
      by_cases hs : (nm1 k).size = 0
      · have e1 := isEmpty_of _ hs
        by_cases hw : wt1 k = 0
        · have e2 : (wt1 k == 0) = true := by rw [beq_iff_eq]; exact hw
          clear hs hw
          go_wp2
          go_roundw
          case rel => exact ⟨k + 1, by omega, by go_num, _, _, rowIs_weight (rowIs_name HR.out k dflt) k 1, good_step HG.out (fun i hi => upd_ne _ _ _ i hi) (fun i hi => upd_ne _ _ _ i hi) (by rw [upd_at]; decide) (by rw [upd_at]; decide), (bel.setCell (Nat.le_refl _) _).setCell (Nat.le_refl _) _, by simp [HS.out]⟩
          case measure => simp [intOf]; omega
        · have e2 : (wt1 k == 0) = false := by rw [beq_eq_false_iff_ne]; exact hw
          have HW : Hid (wt1 k ≠ 0) := hw
          clear hs hw
          go_wp2
          go_roundw
          case rel => exact ⟨k + 1, by omega, by go_num, _, _, rowIs_name HR.out k dflt, good_step HG.out (fun i hi => upd_ne _ _ _ i hi) (fun i hi => rfl) (by rw [upd_at]; decide) HW.out, bel.setCell (Nat.le_refl _) _, by simp [HS.out]⟩
          case measure => simp [intOf]; omega
      · have e1 := notEmpty_of _ hs
        have HZ : Hid ((nm1 k).size ≠ 0) := hs
        by_cases hw : wt1 k = 0
        · have e2 : (wt1 k == 0) = true := by rw [beq_iff_eq]; exact hw
          clear hs hw
          go_wp2
          go_roundw
          case rel => exact ⟨k + 1, by omega, by go_num, _, _, rowIs_weight HR.out k 1, good_step HG.out (fun i hi => rfl) (fun i hi => upd_ne _ _ _ i hi) HZ.out (by rw [upd_at]; decide), bel.setCell (Nat.le_refl _) _, by simp [HS.out]⟩
          case measure => simp [intOf]; omega
        · have e2 : (wt1 k == 0) = false := by rw [beq_eq_false_iff_ne]; exact hw
          have HW : Hid (wt1 k ≠ 0) := hw
          clear hs hw
          go_wp2
          go_roundw
          case rel => exact ⟨k + 1, by omega, by go_num, _, _, HR.out, good_step HG.out (fun i hi => rfl) (fun i hi => rfl) HZ.out HW.out, bel, HS.out⟩
          case measure => simp [intOf]; omega
    · go_wp2
      go_ret
      obtain rfl : k = 1 := by omega
      exact ⟨rfl, HF.out⟩

end Go.Proofs.Qxb6600790a.Queues

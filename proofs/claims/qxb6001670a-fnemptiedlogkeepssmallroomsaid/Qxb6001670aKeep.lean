/-
  Qxb6001670aKeep: the walk of 'FnEmptiedLogKeepsSmallRoom'.
-/
import Derived.Test.Qxb6001670aEmp
import Derived.ArgAppend
import Derived.Deep.QuietTactic
import Derived.BigQuiet
namespace Go.Proofs.Qxb6001670a.Keep
open Go.ChangeShapes Go.WideShapes Go.ChangeAt Go.RowKit

def fb (j : Nat) : Int := ((1 + j % 200 : Nat) : Int)
theorem fb_pos (j : Nat) : 1 ≤ fb j ∧ fb j ≤ 200 := by unfold fb; omega
def gb (k j : Nat) : Int := if j < k then fb j else 0

theorem ret_int {k : IntKind} {a b : Int} (h : a = b) : Ending.returned (.int k a) = .returned (.int k b) := by rw [h]

theorem fill_any (i : Nat) (w : World) (hi : i < 65536) :
    Calls Try.prog 30 #[.int .i64 (i : Int)] w fun e w' => e = .returned (.int .u8 (fb i)) ∧ w' = w := by
  have h1 : (i : Int) % 200 < 200 := by omega
  have h2 : 0 ≤ (i : Int) % 200 := by omega
  go_enter Try.func30, Try.ntmps30
  go_wp2
  go_ret
  exact ⟨ret_int (by unfold fb; omega), rfl⟩

/-- What holds of the world after k rounds of the filling loop. -/
structure Filled (w : World) (c k : Nat) (wr : World) : Prop where
  row : wr.rowIs w.heap.size 5 c (fun j => .int .u8 (gb k j))
  below : Below w.heap.size w wr
  size : wr.heap.size = w.heap.size + 1

theorem filled_start (w : World) (c : Nat) : Filled w c 0 (w.alloc (.cells (madeCells #[.int .u8 0] c) 5)) :=
  ⟨(World.rowIs_made w _ c 5).congr (fun i _ => by simp [gb]), (Below.refl _ _).alloc (Nat.le_refl _) _, by simp⟩

theorem filled_step {w wr : World} {c k : Nat} (h : Filled w c k wr) : Filled w c (k + 1) (wr.setCell ⟨w.heap.size, k, none⟩ (.int .u8 (fb k))) :=
  ⟨(h.row.set k _).congr (fun i _ => by
      unfold gb
      by_cases e : i = k
      · subst e; simp
      · rw [if_neg e]
        by_cases e2 : i < k
        · rw [if_pos e2, if_pos (by omega)]
        · rw [if_neg e2, if_neg (by omega)]), h.below.setCell (Nat.le_refl _) _, by simp [h.size]⟩

/-- What holds of the world behind the append: the payload's row reads f, nothing old has turned. -/
structure Kept (w : World) (c : Nat) (f : Nat → Int) (w2 : World) : Prop where
  row : w2.rowIs w.heap.size 5 c (fun j => .int .u8 (f j))
  below : Below w.heap.size w w2

theorem Kept.drewN {w w2 : World} {c : Nat} {f : Nat → Int} (h : Kept w c f w2) (q : Nat) : Kept w c f (w2.drewN q) := ⟨h.row, below_drewN h.below q⟩

theorem kept_in {w wr : World} {c n : Nat} (h : Filled w c n wr) (o : Obj) :
    Kept w c (fun j => if j = 0 then 0 else gb n j) ((wr.alloc o).setCells w.heap.size 0 [.int .u8 0]) :=
  ⟨((h.row.alloc o).set 0 _).congr (fun i _ => by by_cases e : i = 0 <;> simp [e]), (h.below.alloc (by rw [h.size]; omega) o).setCell (Nat.le_refl _) _⟩

theorem kept_out {w wr w3 : World} {c n : Nat} (h : Filled w c n wr) (o : Obj) (hg : (wr.alloc o).grownBy w3 none) : Kept w c (gb n) w3 := by
  have hs := h.size
  refine ⟨(h.row.alloc o).of_block (hg.block _ (by simp [hs]; omega) (by simp)), (h.below.alloc (by rw [hs]; omega) o).grown hg (by simp [hs]; omega) (by simp)⟩

/-- A slice that owns one cell: its form, and that cell. -/
theorem own_one {w : World} {base : Nat} {v x : Value} (h : w.ownsRow base 5 1 v 1 [x]) : ∃ g cap : Nat, v = .slice (some ⟨g, 0, none⟩) 1 cap ∧ w.cell? ⟨g, 0, none⟩ = some x ∧ 1 ≤ cap := by
  rcases h.2 with ⟨_, hx⟩ | ⟨g, cap, cur, hv, hb, hg, hnc, hcm, hcs, htake⟩
  · simp at hx
  · subst hv
    exact ⟨g, cap, rfl, by rw [h.cellAt 0 (by omega)]; rfl, hnc⟩

set_option maxHeartbeats 1000000 in
theorem walk_small (n c : Nat) (w : World) (h1 : 1 ≤ n) (hn : n ≤ c) (hc : c ≤ 16384) :
    Calls Try.prog 9 #[.int .i64 (n : Int), .int .i64 (c : Int)] w fun e w' => e = .returned (.bool true) ∧ Below w.heap.size w w' := by
  have hmk := Emp.make_bytes n c hn (by omega)
  have b1 : decide ((c : Int) < 1) = false := by simp; omega
  have b2 : decide ((65536 : Int) < c) = false := by simp; omega
  have b3 : decide ((n : Int) < 1) = false := by simp; omega
  have b4 : decide (c < n) = false := by simp; omega
  go_enter Try.func9, Try.ntmps9
  go_wp2
  go_loopw [6] (fun i wr => ∃ k : Nat, k ≤ n ∧ i = .int .i64 k ∧ Filled w c k wr) (fun i _ => n - (intOf i).toNat)
  case atStart => exact ⟨0, Nat.zero_le _, rfl, filled_start w c⟩
  case round =>
    obtain ⟨k, hk, rfl, hF⟩ := hrel
    by_cases hlt : k < n
    · have hcell := hF.row.cell (i := k) (by omega)
      have hfz := hF.row.frozen k
      go_wp2_with (go_at_call 30; refine (fill_any k _ (by omega)).mono ?_; rintro e w' ⟨rfl, rfl⟩)
      go_roundw
      case rel => exact ⟨k + 1, by omega, by go_num, filled_step hF⟩
      case measure => simp [intOf]; omega
    · obtain rfl : k = n := by omega
      obtain ⟨i0, hi, hz0, hz1, hz2⟩ := info_parts Emp.info5
      have hsz := hF.size
      go_wp2_with fail
      refine (Emp.ZZ_small _ _ _ _ (by omega)).mono ?_
      rintro e w' ⟨rfl, rfl⟩
      go_wp2_with (at_builtin; refine wpList_append_arg _ rfl _ _ 26 rfl 5 i0 (.int .u8 0) 1 1 Try.underlying26 hi hz0 hz1 hz2 rfl (by decide) w.heap.size 0 0 c [] rfl rfl ?olds ⟨w.heap.size + 1, 0, none⟩ 1 1 [.int .u8 0] rfl rfl ?c1 ?c2 ?spare ?ml ?mb ?room ?grow)
      case olds => intro j u hj; simp at hj
      case c1 =>
        rw [← hsz]
        exact cell_one_new _ _ _
      case c2 => intro u hu; simp at hu; subst hu; rfl
      case spare =>
        intro _ j hj
        simp at hj
        subst hj
        have hx := hF.row.alloc (.cells #[.int .u8 0] 5)
        exact ⟨by rw [hx.cell (i := 0) (by omega)]; rfl, hx.frozen 0⟩
      case ml => unfold maxLen; omega
      case mb => omega
      case grow => intro h; omega
      case room =>
        intro _
        have hK := kept_in hF (.cells #[.int .u8 0] 5)
        clear hsz hF
        generalize (w'.alloc (Obj.cells #[Value.int IntKind.u8 0] 5)).setCells w.heap.size 0 [Value.int IntKind.u8 0] = w2 at hK ⊢
        have h0 : w2.cell? ⟨w.heap.size, 0, none⟩ = some (.int .u8 0) := hK.row.cell (i := 0) (by omega)
        have b5 : decide ((c : Int) ≤ 16384) = true := by simp; omega
        go_wp2_with fail
        go_quiet (fail)
        go_wp2
        go_loopw [9] (fun i wr => ∃ m : Nat, 1 ≤ m ∧ m ≤ k ∧ i = .int .i64 m ∧ Kept w c (fun j => if j = 0 then 0 else gb k j) wr) (fun i _ => k - (intOf i).toNat)
        case atStart => exact ⟨1, Nat.le_refl _, h1, rfl, hK.drewN _⟩
        case round =>
          obtain ⟨m, hm1, hm2, rfl, hR⟩ := hrel
          by_cases hlt2 : m < k
          · have hcm : wr.cell? ⟨w.heap.size, m, none⟩ = some (.int .u8 (fb m)) := by
              rw [hR.row.cell (i := m) (by omega)]
              rw [if_neg (by omega)]
              unfold gb
              rw [if_pos hlt2]
            go_wp2_with fail
            go_quiet ((go_at_call 30; exact Calls.quiet_of_same (fill_any m _ (by omega))))
            go_wp2
            go_roundw
            case rel => exact ⟨m + 1, by omega, by omega, by go_num, hR.drewN _⟩
            case measure => simp [intOf]; omega
          · have h0 : wr.cell? ⟨w.heap.size, 0, none⟩ = some (.int .u8 0) := hR.row.cell (i := 0) (by omega)
            go_wp2
            go_ret
            exact ⟨rfl, hR.below⟩
set_option maxHeartbeats 1000000 in
theorem walk_big (n c : Nat) (w : World) (h1 : 1 ≤ n) (hn : n ≤ c) (hc : c ≤ 65536) (hbig : 16384 < c) :
    Calls Try.prog 9 #[.int .i64 (n : Int), .int .i64 (c : Int)] w fun e w' => e = .returned (.bool true) ∧ Below w.heap.size w w' := by
  have hmk := Emp.make_bytes n c hn (by omega)
  have b1 : decide ((c : Int) < 1) = false := by simp; omega
  have b2 : decide ((65536 : Int) < c) = false := by simp; omega
  have b3 : decide ((n : Int) < 1) = false := by simp; omega
  have b4 : decide (c < n) = false := by simp; omega
  go_enter Try.func9, Try.ntmps9
  go_wp2
  go_loopw [6] (fun i wr => ∃ k : Nat, k ≤ n ∧ i = .int .i64 k ∧ Filled w c k wr) (fun i _ => n - (intOf i).toNat)
  case atStart => exact ⟨0, Nat.zero_le _, rfl, filled_start w c⟩
  case round =>
    obtain ⟨k, hk, rfl, hF⟩ := hrel
    by_cases hlt : k < n
    · have hcell := hF.row.cell (i := k) (by omega)
      have hfz := hF.row.frozen k
      go_wp2_with (go_at_call 30; refine (fill_any k _ (by omega)).mono ?_; rintro e w' ⟨rfl, rfl⟩)
      go_roundw
      case rel => exact ⟨k + 1, by omega, by go_num, filled_step hF⟩
      case measure => simp [intOf]; omega
    · obtain rfl : k = n := by omega
      obtain ⟨i0, hi, hz0, hz1, hz2⟩ := info_parts Emp.info5
      have hsz := hF.size
      go_wp2_with fail
      refine (Emp.ZZ_big _ _ _ _ hc hbig).mono ?_
      rintro e w' ⟨rfl, rfl⟩
      go_wp2_with (at_builtin; refine wpList_append_grows _ rfl _ _ 26 rfl 5 i0 (.int .u8 0) 1 1 Try.underlying26 hi hz0 hz1 hz2 rfl (by decide) none 0 0 [] rfl (fun _ => ⟨rfl, rfl⟩) rfl ?olds ⟨w.heap.size + 1, 0, none⟩ 1 1 [.int .u8 0] rfl rfl ?c1 ?c2 ?full ?ml ?mb ?grow)
      case olds => intro b hb; cases hb
      case c1 =>
        rw [← hsz]
        exact cell_one_new _ _ _
      case c2 => intro u hu; simp at hu; subst hu; rfl
      case full => omega
      case ml => unfold maxLen; omega
      case mb => omega
      case grow =>
        intro v' w3 hown hgrow
        have hK := kept_out hF _ hgrow
        obtain ⟨g, cap, hv, hg0, hcap⟩ := own_one hown
        rw [hv]
        clear hsz hF hown hgrow hv
        have hf0 := fb_pos 0
        have h0 : w3.cell? ⟨w.heap.size, 0, none⟩ = some (.int .u8 (fb 0)) := by
          rw [hK.row.cell (i := 0) (by omega)]
          unfold gb
          rw [if_pos (by omega)]
        have b5 : decide ((c : Int) ≤ 16384) = false := by simp; omega
        have b6 : (fb 0 == 0) = false := by rw [beq_eq_false_iff_ne]; omega
        go_wp2_with fail
        go_quiet ((go_at_call 30; exact Calls.quiet_of_same (fill_any 0 _ (by omega))))
        go_wp2
        go_loopw [9] (fun i wr => ∃ m : Nat, 1 ≤ m ∧ m ≤ k ∧ i = .int .i64 m ∧ Kept w c (gb k) wr ∧ wr.cell? ⟨g, 0, none⟩ = some (.int .u8 0)) (fun i _ => k - (intOf i).toNat)
        case atStart => exact ⟨1, Nat.le_refl _, h1, rfl, hK.drewN _, hg0⟩
        case round =>
          obtain ⟨m, hm1, hm2, rfl, hR, hgr⟩ := hrel
          by_cases hlt2 : m < k
          · have hcm : wr.cell? ⟨w.heap.size, m, none⟩ = some (.int .u8 (fb m)) := by
              rw [hR.row.cell (i := m) (by omega)]
              unfold gb
              rw [if_pos hlt2]
            go_wp2_with fail
            go_quiet ((go_at_call 30; exact Calls.quiet_of_same (fill_any m _ (by omega))))
            go_wp2
            go_roundw
            case rel => exact ⟨m + 1, by omega, by omega, by go_num, hR.drewN _, hgr⟩
            case measure => simp [intOf]; omega
          · go_wp2
            go_ret
            exact ⟨rfl, hR.below⟩

theorem walk_bounds (a0 a1 : Int) (w : World) (h : a1 < 1 ∨ 65536 < a1 ∨ a0 < 1 ∨ a1 < a0) :
    Calls Try.prog 9 #[.int .i64 a0, .int .i64 a1] w fun e w' => e = .returned (.bool true) ∧ Below w.heap.size w w' := by
  by_cases h1 : a1 < 1
  · go_enter Try.func9, Try.ntmps9
    go_wp2
    go_ret
    exact ⟨rfl, Below.refl _ _⟩
  by_cases h2 : 65536 < a1
  · go_enter Try.func9, Try.ntmps9
    go_wp2
    go_ret
    exact ⟨rfl, Below.refl _ _⟩
  by_cases h3 : a0 < 1
  · go_enter Try.func9, Try.ntmps9
    go_wp2
    go_ret
    exact ⟨rfl, Below.refl _ _⟩
  have h4 : a1 < a0 := by omega
  go_enter Try.func9, Try.ntmps9
  go_wp2
  go_ret
  exact ⟨rfl, Below.refl _ _⟩

end Go.Proofs.Qxb6001670a.Keep

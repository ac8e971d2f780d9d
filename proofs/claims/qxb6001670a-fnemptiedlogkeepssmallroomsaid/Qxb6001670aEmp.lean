/-
  Qxb6001670aEmp: contracts of 'emptiedLog' and of its thin caller; the walk of 'FnEmptiedLogIdempotent'.
-/
import Derived.Test.Qxb6001670aRows
import Derived.WalkKit
import Derived.ProofKit
import Derived.WalkSpells
import Derived.WalkLawsBesides
import Derived.Deep.OwnRows
import Derived.Lib.SliceRun
namespace Go.Proofs.Qxb6001670a.Emp
open Go.ChangeShapes Go.WideShapes Go.ChangeAt Go.RowKit

/-- What 'emptiedLog' answers. -/
def emp (a : Option Addr) (c : Nat) : Value := if 16384 < c then .slice none 0 0 else .slice a 0 c

theorem emptied_any (a : Option Addr) (n c : Nat) (w : World) (hc : c ≤ 65536) :
    Calls Try.prog 42 #[.slice a n c] w fun e w' => e = .returned (emp a c) ∧ w' = w := by
  by_cases h : 16384 < c
  · have h' : (16384 : Int) < (c : Int) := by omega
    go_enter Try.func42, Try.ntmps42
    go_wp2
    go_ret
    exact ⟨by simp [emp, h], rfl⟩
  · have h' : ¬ (16384 : Int) < (c : Int) := by omega
    go_enter Try.func42, Try.ntmps42
    go_wp2
    go_ret
    exact ⟨by simp [emp, h], rfl⟩

theorem ZZemptied_any (a : Option Addr) (n c : Nat) (w : World) (hc : c ≤ 65536) :
    Calls Try.prog 31 #[.slice a n c] w fun e w' => e = .returned (emp a c) ∧ w' = w := by
  go_enter Try.func31, Try.ntmps31
  go_wp2_with (go_at_call 42; refine (emptied_any _ _ _ _ hc).mono ?_; rintro e w' ⟨rfl, rfl⟩)
  go_ret
  exact ⟨rfl, rfl⟩

theorem ZZ_big (a : Option Addr) (n c : Nat) (w : World) (hc : c ≤ 65536) (h : 16384 < c) :
    Calls Try.prog 31 #[.slice a n c] w fun e w' => e = .returned (.slice none 0 0) ∧ w' = w := by
  refine (ZZemptied_any a n c w hc).mono ?_
  rintro e w' ⟨rfl, rfl⟩
  exact ⟨by simp [emp, h], rfl⟩

theorem ZZ_small (a : Option Addr) (n c : Nat) (w : World) (h : ¬ 16384 < c) :
    Calls Try.prog 31 #[.slice a n c] w fun e w' => e = .returned (.slice a 0 c) ∧ w' = w := by
  refine (ZZemptied_any a n c w (by omega)).mono ?_
  rintro e w' ⟨rfl, rfl⟩
  exact ⟨by simp [emp, h], rfl⟩

theorem info5 : (Try.prog.info? 5).map (fun i => (i.zero, i.size, i.bytes)) = some (some (.int .u8 0), 1, 1) := by kernel_rfl

/-- 'make([]byte, n, c)'. -/
theorem make_bytes (n c : Nat) (hn : n ≤ c) (hc : c ≤ 65536) (w : World) :
    (Instr.makeSlice 26 (.int .i64 (n : Int)) (.int .i64 (c : Int))).run Try.prog w = .ok (.slice (some ⟨w.heap.size, 0, none⟩) n c) (w.alloc (.cells (madeCells #[.int .u8 0] c) 5)) := by
  obtain ⟨i, hi, hzz⟩ := Option.map_eq_some_iff.1 info5
  simp only [Prod.mk.injEq] at hzz
  obtain ⟨hz, hs, hb⟩ := hzz
  have hr := run_make (P := Try.prog) w 26 5 i (.int .u8 0) Try.underlying26 hi hz .i64 .i64 n c (by omega) (by omega) (by rw [hb]; omega) (by omega)
  rw [hs, Nat.mul_one, Int.toNat_natCast, Int.toNat_natCast] at hr
  exact hr

theorem walk_bounds (a0 a1 : Int) (a2 : Bool) (w : World) (h : a1 < 0 ∨ 65536 < a1 ∨ a0 < 0 ∨ a1 < a0) :
    Calls Try.prog 10 #[.int .i64 a0, .int .i64 a1, .bool a2] w fun e w' => e = .returned (.bool true) ∧ Grown w w' := by
  by_cases h1 : a1 < 0
  · go_enter Try.func10, Try.ntmps10
    go_wp2
    go_ret
    exact ⟨rfl, Grown.refl _⟩
  by_cases h2 : 65536 < a1
  · go_enter Try.func10, Try.ntmps10
    go_wp2
    go_ret
    exact ⟨rfl, Grown.refl _⟩
  by_cases h3 : a0 < 0
  · go_enter Try.func10, Try.ntmps10
    go_wp2
    go_ret
    exact ⟨rfl, Grown.refl _⟩
  have h4 : a1 < a0 := by omega
  go_enter Try.func10, Try.ntmps10
  go_wp2
  go_ret
  exact ⟨rfl, Grown.refl _⟩

theorem walk_nil (n c : Nat) (w : World) (hn : n ≤ c) (hc : c ≤ 65536) :
    Calls Try.prog 10 #[.int .i64 (n : Int), .int .i64 (c : Int), .bool true] w fun e w' => e = .returned (.bool true) ∧ Grown w w' := by
  have q26 : ∀ (w : World) (a : Option Addr) (n c n' c' : Nat), (binOp .eql 26 (.slice a n c) (.slice none n' c')).run Try.prog w = .ok (.bool a.isNone) w := fun w a n c n' c' => Lib.run_eql_slice_nil w _ _ a n c n' c' Try.underlying26
  go_enter Try.func10, Try.ntmps10
  go_wp2_with (go_at_call 31; refine (ZZ_small _ _ _ _ (by omega)).mono ?_; rintro e w' ⟨rfl, rfl⟩)
  go_ret
  exact ⟨rfl, Grown.refl _⟩

theorem walk_small (n c : Nat) (w : World) (hn : n ≤ c) (hc : c ≤ 16384) :
    Calls Try.prog 10 #[.int .i64 (n : Int), .int .i64 (c : Int), .bool false] w fun e w' => e = .returned (.bool true) ∧ Grown w w' := by
  have hmk := make_bytes n c hn (by omega)
  have q26 : ∀ (w : World) (a : Option Addr) (n c n' c' : Nat), (binOp .eql 26 (.slice a n c) (.slice none n' c')).run Try.prog w = .ok (.bool a.isNone) w := fun w a n c n' c' => Lib.run_eql_slice_nil w _ _ a n c n' c' Try.underlying26
  go_enter Try.func10, Try.ntmps10
  go_wp2_with (go_at_call 31; refine (ZZ_small _ _ _ _ (by omega)).mono ?_; rintro e w' ⟨rfl, rfl⟩)
  go_ret
  exact ⟨rfl, (Grown.refl _).alloc _ _⟩

theorem walk_big (n c : Nat) (w : World) (hn : n ≤ c) (hc : c ≤ 65536) (hb : 16384 < c) :
    Calls Try.prog 10 #[.int .i64 (n : Int), .int .i64 (c : Int), .bool false] w fun e w' => e = .returned (.bool true) ∧ Grown w w' := by
  have hmk := make_bytes n c hn (by omega)
  have q26 : ∀ (w : World) (a : Option Addr) (n c n' c' : Nat), (binOp .eql 26 (.slice a n c) (.slice none n' c')).run Try.prog w = .ok (.bool a.isNone) w := fun w a n c n' c' => Lib.run_eql_slice_nil w _ _ a n c n' c' Try.underlying26
  go_enter Try.func10, Try.ntmps10
  go_wp2_with fail
  refine (ZZ_big _ _ _ _ hc hb).mono ?_
  rintro e w' ⟨rfl, rfl⟩
  go_wp2_with fail
  refine (ZZ_small _ _ _ _ (by omega)).mono ?_
  rintro e w' ⟨rfl, rfl⟩
  go_wp2
  go_ret
  exact ⟨rfl, (Grown.refl _).alloc _ _⟩
end Go.Proofs.Qxb6001670a.Emp

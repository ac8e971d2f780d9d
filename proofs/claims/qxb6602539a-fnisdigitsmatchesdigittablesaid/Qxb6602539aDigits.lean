/-
  Qxb6602539aDigits: the contracts of 'isDigits', of the two digit tests, and the walks of the two laws.
-/
import Derived.Test.Qxb6602539aRows
import Derived.WalkKit
import Derived.ProofKit
import Derived.WalkSpells
import Derived.WalkLawsBesides
import Derived.Laws.IdiomStrings
namespace Go.Proofs.Qxb6602539a.Digits
open Go.ChangeShapes Go.WideShapes Go.ChangeAt Go.RowKit

/-- Byte i of a string, as a number. -/
def bt (s : ByteArray) (i : Nat) : Nat := if h : i < s.size then s[i].toNat else 0
theorem bt_eq (s : ByteArray) (i : Nat) (h : i < s.size) : bt s i = s[i].toNat := by unfold bt; rw [dif_pos h]
def digP (n : Nat) : Prop := 48 ≤ n ∧ n ≤ 57

theorem empty_of (s : ByteArray) (h : s.size = 0) : s.toList.isEmpty = true := by
  rw [ByteArray.toList_eq]
  have : s.data.size = 0 := h
  rw [List.isEmpty_iff_length_eq_zero, Array.length_toList, this]
theorem notEmpty_of (s : ByteArray) (h : s.size ≠ 0) : s.toList.isEmpty = false := by
  rw [ByteArray.toList_eq]
  have h' : s.data.size ≠ 0 := h
  rw [Bool.eq_false_iff]
  intro e
  rw [List.isEmpty_iff_length_eq_zero, Array.length_toList] at e
  exact h' e

theorem isDigits_none (s : ByteArray) (w : World) (h0 : s.size = 0) :
    Calls Try.prog 11 #[.string s] w fun e w' => e = .returned (.bool false) ∧ w' = w := by
  have e := empty_of s h0
  clear h0
  go_enter Try.func11, Try.ntmps11
  go_wp2
  go_ret
  exact ⟨rfl, rfl⟩

theorem isDigits_yes (s : ByteArray) (w : World) (hs : s.size ≤ 1048576) (h0 : 0 < s.size) (hall : ∀ i, i < s.size → digP (bt s i)) :
    Calls Try.prog 11 #[.string s] w fun e w' => e = .returned (.bool true) ∧ w' = w := by
  have e := notEmpty_of s (by omega)
  have HA : Hid (∀ i, i < s.size → digP (bt s i)) := hall
  clear hall
  go_enter Try.func11, Try.ntmps11
  go_wp2
  go_loop [8] (fun i => ∃ k : Nat, k ≤ s.size ∧ i = .int .i64 k) (fun i => s.size - (intOf i).toNat)
  case atStart => exact ⟨0, Nat.zero_le _, rfl⟩
  case round =>
    obtain ⟨k, hk, rfl⟩ := hrel
    by_cases hlt : k < s.size
    · have hd := HA.out k hlt
      rw [bt_eq s k hlt] at hd
      have h1 : decide ((s[k].toNat : Int) < 48) = false := by have := hd.1; simp; omega
      have h2 : decide ((57 : Int) < (s[k].toNat : Int)) = false := by have := hd.2; simp; omega
      clear hd
      go_wp2
      go_round
      case rel => exact ⟨k + 1, by omega, by go_num⟩
      case measure => simp [intOf]; omega
    · go_wp2
      go_ret
      exact ⟨rfl, rfl⟩

theorem isDigits_no (s : ByteArray) (w : World) (hs : s.size ≤ 1048576) (j : Nat) (hj : j < s.size) (hno : ¬ digP (bt s j)) :
    Calls Try.prog 11 #[.string s] w fun e w' => e = .returned (.bool false) ∧ w' = w := by
  have e := notEmpty_of s (by omega)
  have HN : Hid (¬ digP (bt s j)) := hno
  clear hno
  go_enter Try.func11, Try.ntmps11
  go_wp2
  go_loop [8] (fun i => ∃ k : Nat, k ≤ j ∧ i = .int .i64 k) (fun i => s.size - (intOf i).toNat)
  case atStart => exact ⟨0, Nat.zero_le _, rfl⟩
  case round =>
    obtain ⟨k, hk, rfl⟩ := hrel
    have hlt : k < s.size := by omega
    by_cases c1 : (s[k].toNat : Int) < 48
    · go_wp2
      go_ret
      exact ⟨rfl, rfl⟩
    · by_cases c2 : (57 : Int) < (s[k].toNat : Int)
      · have h1 : decide ((s[k].toNat : Int) < 48) = false := by simpa using c1
        go_wp2
        go_ret
        exact ⟨rfl, rfl⟩
      · have h1 : decide ((s[k].toNat : Int) < 48) = false := by simpa using c1
        have h2 : decide ((57 : Int) < (s[k].toNat : Int)) = false := by simpa using c2
        have hkj : k < j := by
          rcases Nat.lt_or_ge k j with e | e
          · exact e
          · exfalso
            have e' : k = j := by omega
            apply HN.out
            subst e'
            rw [bt_eq s k hlt]
            unfold digP
            omega
        go_wp2
        go_round
        case rel => exact ⟨k + 1, by omega, by go_num⟩
        case measure => simp [intOf]; omega

theorem switch_yes (n : Nat) (h : digP n) (w : World) : Calls Try.prog 7 #[.int .u8 (n : Int)] w fun e w' => e = .returned (.bool true) ∧ w' = w := by
  have h' : n = 48 ∨ n = 49 ∨ n = 50 ∨ n = 51 ∨ n = 52 ∨ n = 53 ∨ n = 54 ∨ n = 55 ∨ n = 56 ∨ n = 57 := by unfold digP at h; omega
  clear h
  rcases h' with rfl | rfl | rfl | rfl | rfl | rfl | rfl | rfl | rfl | rfl
  all_goals
    go_enter Try.func7, Try.ntmps7
    go_wp2
    go_ret
    exact ⟨rfl, rfl⟩

theorem switch_no (n : Nat) (h : ¬ digP n) (w : World) : Calls Try.prog 7 #[.int .u8 (n : Int)] w fun e w' => e = .returned (.bool false) ∧ w' = w := by
  unfold digP at h
  have c0 : ((n : Int) == 48) = false := by rw [beq_eq_false_iff_ne]; omega
  have c1 : ((n : Int) == 49) = false := by rw [beq_eq_false_iff_ne]; omega
  have c2 : ((n : Int) == 50) = false := by rw [beq_eq_false_iff_ne]; omega
  have c3 : ((n : Int) == 51) = false := by rw [beq_eq_false_iff_ne]; omega
  have c4 : ((n : Int) == 52) = false := by rw [beq_eq_false_iff_ne]; omega
  have c5 : ((n : Int) == 53) = false := by rw [beq_eq_false_iff_ne]; omega
  have c6 : ((n : Int) == 54) = false := by rw [beq_eq_false_iff_ne]; omega
  have c7 : ((n : Int) == 55) = false := by rw [beq_eq_false_iff_ne]; omega
  have c8 : ((n : Int) == 56) = false := by rw [beq_eq_false_iff_ne]; omega
  have c9 : ((n : Int) == 57) = false := by rw [beq_eq_false_iff_ne]; omega
  clear h
  go_enter Try.func7, Try.ntmps7
  go_wp2
  go_ret
  exact ⟨rfl, rfl⟩

/-- The ten digits by their place. -/
def ten : Value := .string ⟨#[48, 49, 50, 51, 52, 53, 54, 55, 56, 57]⟩
theorem at0 (w : World) : (Instr.index 9 ten (.int .i64 ((0 : Nat) : Int))).run Try.prog w = .ok (.int .u8 (48 + ((0 : Nat) : Int))) w := by kernel_rfl
theorem at1 (w : World) : (Instr.index 9 ten (.int .i64 ((1 : Nat) : Int))).run Try.prog w = .ok (.int .u8 (48 + ((1 : Nat) : Int))) w := by kernel_rfl
theorem at2 (w : World) : (Instr.index 9 ten (.int .i64 ((2 : Nat) : Int))).run Try.prog w = .ok (.int .u8 (48 + ((2 : Nat) : Int))) w := by kernel_rfl
theorem at3 (w : World) : (Instr.index 9 ten (.int .i64 ((3 : Nat) : Int))).run Try.prog w = .ok (.int .u8 (48 + ((3 : Nat) : Int))) w := by kernel_rfl
theorem at4 (w : World) : (Instr.index 9 ten (.int .i64 ((4 : Nat) : Int))).run Try.prog w = .ok (.int .u8 (48 + ((4 : Nat) : Int))) w := by kernel_rfl
theorem at5 (w : World) : (Instr.index 9 ten (.int .i64 ((5 : Nat) : Int))).run Try.prog w = .ok (.int .u8 (48 + ((5 : Nat) : Int))) w := by kernel_rfl
theorem at6 (w : World) : (Instr.index 9 ten (.int .i64 ((6 : Nat) : Int))).run Try.prog w = .ok (.int .u8 (48 + ((6 : Nat) : Int))) w := by kernel_rfl
theorem at7 (w : World) : (Instr.index 9 ten (.int .i64 ((7 : Nat) : Int))).run Try.prog w = .ok (.int .u8 (48 + ((7 : Nat) : Int))) w := by kernel_rfl
theorem at8 (w : World) : (Instr.index 9 ten (.int .i64 ((8 : Nat) : Int))).run Try.prog w = .ok (.int .u8 (48 + ((8 : Nat) : Int))) w := by kernel_rfl
theorem at9 (w : World) : (Instr.index 9 ten (.int .i64 ((9 : Nat) : Int))).run Try.prog w = .ok (.int .u8 (48 + ((9 : Nat) : Int))) w := by kernel_rfl

theorem at_digits (k : Nat) (hk : k < 10) (w : World) : (Instr.index 9 (.string ⟨#[48, 49, 50, 51, 52, 53, 54, 55, 56, 57]⟩) (.int .i64 (k : Int))).run Try.prog w = .ok (.int .u8 (48 + (k : Int))) w := by
  have h : k = 0 ∨ k = 1 ∨ k = 2 ∨ k = 3 ∨ k = 4 ∨ k = 5 ∨ k = 6 ∨ k = 7 ∨ k = 8 ∨ k = 9 := by omega
  rcases h with h | h | h | h | h | h | h | h | h | h
  · rw [h]; exact at0 w
  · rw [h]; exact at1 w
  · rw [h]; exact at2 w
  · rw [h]; exact at3 w
  · rw [h]; exact at4 w
  · rw [h]; exact at5 w
  · rw [h]; exact at6 w
  · rw [h]; exact at7 w
  · rw [h]; exact at8 w
  · rw [h]; exact at9 w

theorem search_any (n : Nat) (w : World) (r : Bool) (hr : r = true ↔ digP n) : Calls Try.prog 10 #[.int .u8 (n : Int)] w fun e w' => e = .returned (.bool r) ∧ w' = w := by
  have HR : Hid (r = true ↔ digP n) := hr
  clear hr
  go_enter Try.func10, Try.ntmps10
  go_wp2
  go_loop [3] (fun i => ∃ k : Nat, k ≤ 10 ∧ i = .int .i64 k ∧ (48 ≤ n → 48 + k ≤ n ∨ 58 ≤ n)) (fun i => 10 - (intOf i).toNat)
  case atStart => exact ⟨0, Nat.zero_le _, rfl, fun h => Or.inl h⟩
  case round =>
    obtain ⟨k, hk, rfl, hno⟩ := hrel
    have HN : Hid (48 ≤ n → 48 + k ≤ n ∨ 58 ≤ n) := hno
    clear hno
    by_cases hlt : k < 10
    · have hix := at_digits k hlt
      by_cases hq : n = 48 + k
      · have hb : (48 + (k : Int) == (n : Int)) = true := by rw [beq_iff_eq]; omega
        have HE : Hid (r = true) := HR.out.2 (by unfold digP; omega)
        clear hq
        go_wp2
        go_ret
        exact ⟨by rw [HE.out]; rfl, rfl⟩
      · have hb : (48 + (k : Int) == (n : Int)) = false := by rw [beq_eq_false_iff_ne]; omega
        have HQ : Hid (¬ n = 48 + k) := hq
        clear hq
        go_wp2
        go_round
        case rel => exact ⟨k + 1, by omega, by go_num, fun h => by have := HN.out h; have := HQ.out; omega⟩
        case measure => simp [intOf]; omega
    · have HE : Hid (r = false) := by
        have h1 := HN.out
        have h2 := HR.out
        unfold digP at h2
        cases r with
        | false => rfl
        | true =>
          have h3 := h2.1 rfl
          omega
      go_wp2
      go_ret
      exact ⟨by rw [HE.out]; rfl, rfl⟩

def allP (s : ByteArray) : Prop := 0 < s.size ∧ ∀ i, i < s.size → digP (bt s i)

theorem isDigits_any (s : ByteArray) (w : World) (r : Bool) (hs : s.size ≤ 1048576) (hr : r = true ↔ allP s) :
    Calls Try.prog 11 #[.string s] w fun e w' => e = .returned (.bool r) ∧ w' = w := by
  rcases Nat.eq_zero_or_pos s.size with h0 | h0
  · have : r = false := by
      cases r with
      | false => rfl
      | true => have := (hr.1 rfl).1; omega
    rw [this]
    exact isDigits_none s w h0
  · by_cases hall : ∀ i, i < s.size → digP (bt s i)
    · have : r = true := hr.2 ⟨h0, hall⟩
      rw [this]
      exact isDigits_yes s w hs h0 hall
    · have hf : r = false := by
        cases r with
        | false => rfl
        | true => exact absurd (hr.1 rfl).2 hall
      have ⟨j, hj⟩ := Classical.not_forall.1 hall
      have ⟨hj1, hj2⟩ := Classical.not_imp.1 hj
      rw [hf]
      exact isDigits_no s w hs j hj1 hj2

theorem ZZ_any (s : ByteArray) (w : World) (r : Bool) (hs : s.size ≤ 1048576) (hr : r = true ↔ allP s) :
    Calls Try.prog 8 #[.string s] w fun e w' => e = .returned (.bool r) ∧ w' = w := by
  have HR : Hid (r = true ↔ allP s) := hr
  clear hr
  go_enter Try.func8, Try.ntmps8
  go_wp2_with (go_at_call 11; refine (isDigits_any s _ r hs HR.out).mono ?_; rintro e w' ⟨rfl, rfl⟩)
  go_ret
  exact ⟨rfl, rfl⟩

theorem size_one (u : UInt8) : (⟨#[u]⟩ : ByteArray).size = 1 := rfl

theorem one_all (u : UInt8) (n : Nat) (h : u.toNat = n) : allP ⟨#[u]⟩ ↔ digP n := by
  have hb : bt ⟨#[u]⟩ 0 = n := by rw [bt_eq ⟨#[u]⟩ 0 (by rw [size_one]; omega)]; exact h
  constructor
  · intro ha
    have := ha.2 0 (by rw [size_one]; omega)
    rwa [hb] at this
  · intro hd
    refine ⟨by rw [size_one]; omega, fun i hi => ?_⟩
    have : i = 0 := by have : i < 1 := hi; omega
    subst this
    rw [hb]
    exact hd

theorem single_walk (n : Nat) (hn : n < 256) (w : World) :
    Calls Try.prog 5 #[.int .u8 (n : Int)] w fun e w' => e = .returned (.bool true) ∧ Grown w w' := by
  obtain ⟨u, hu⟩ : ∃ u : UInt8, u = UInt8.ofNat n := ⟨_, rfl⟩
  have hun : u.toNat = n := by rw [hu]; exact UInt8.toNat_ofNat_of_lt hn
  have hcv : (convert 25 9 (.slice (some ⟨w.heap.size, 0, none⟩) 1 1)).run Try.prog (w.alloc (.cells #[.int .u8 (n : Int)] 5)) = .ok (.string ⟨#[u]⟩) (w.alloc (.cells #[.int .u8 (n : Int)] 5)) :=
    run_convert_bytes_back (P := Try.prog) (w.alloc (.cells #[.int .u8 (n : Int)] 5)) 25 9 5 ⟨w.heap.size, 0, none⟩ 1 [u] Try.underlying25 Try.underlying5 Try.underlying9 (fun j hj => by
      have h0 : j = 0 := by simpa using hj
      subst h0
      exact cell_one_new w (.int .u8 (n : Int)) 5 0 _ (by simp [hun]))
  obtain ⟨r, hr⟩ : ∃ r : Bool, r = true ↔ digP n := by
    by_cases h : digP n
    · exact ⟨true, by simp [h]⟩
    · exact ⟨false, by simp [h]⟩
  have HR : Hid (r = true ↔ digP n) := hr
  have HA : Hid (r = true ↔ allP ⟨#[u]⟩) := hr.trans (one_all u n hun).symm
  clear hu hun hr
  go_enter Try.func5, Try.ntmps5
  go_wp2_with fail
  refine (ZZ_any ⟨#[u]⟩ _ r (by rw [size_one]; omega) HA.out).mono ?_
  rintro e w' ⟨rfl, hw⟩
  rw [hw]
  clear hw
  go_wp2_with fail
  refine (search_any n _ r HR.out).mono ?_
  rintro e w'' ⟨rfl, hw⟩
  rw [hw]
  clear hw
  go_wp2
  go_ret
  exact ⟨by simp, (Grown.refl _).alloc _ _⟩

theorem bytes_yes (s : ByteArray) (w : World) (hs : s.size ≤ 1048576) :
    Calls Try.prog 6 #[.string s] w fun e w' => e = .returned (.bool true) ∧ w' = w := by
  have h : ¬ (1048576 : Int) < (s.size : Int) := by omega
  go_enter Try.func6, Try.ntmps6
  go_wp2
  go_ret
  exact ⟨rfl, rfl⟩

theorem bytes_no (s : ByteArray) (w : World) (hs : 1048576 < s.size) :
    Calls Try.prog 6 #[.string s] w fun e w' => e = .returned (.bool false) ∧ w' = w := by
  have h : (1048576 : Int) < (s.size : Int) := by omega
  go_enter Try.func6, Try.ntmps6
  go_wp2
  go_ret
  exact ⟨rfl, rfl⟩

theorem table_big (s : ByteArray) (w : World) (h1 : 1048576 < s.size) :
    Calls Try.prog 3 #[.string s] w fun e w' => e = .returned (.bool true) ∧ w' = w := by
  go_enter Try.func3, Try.ntmps3
  go_wp2_with (go_at_call 6; refine (bytes_no s _ h1).mono ?_; rintro e w' ⟨rfl, rfl⟩)
  go_ret
  exact ⟨rfl, rfl⟩

theorem table_yes (s : ByteArray) (w : World) (hs : s.size ≤ 1048576) (ha : allP s) :
    Calls Try.prog 3 #[.string s] w fun e w' => e = .returned (.bool true) ∧ w' = w := by
  have h0 := ha.1
  have HA : Hid (allP s) := ha
  have b1 : decide ((1048576 : Int) < (s.size : Int)) = false := by simp; omega
  have b2 : decide ((0 : Int) < (s.size : Int)) = true := by simp; omega
  clear ha
  go_enter Try.func3, Try.ntmps3
  go_wp2_with (go_at_call 6; refine (bytes_yes s _ hs).mono ?_; rintro e w ⟨rfl, rfl⟩)
  go_loop [3, 4] (fun t i => ∃ k : Nat, k ≤ s.size ∧ i = .int .i64 k ∧ t = .int .i64 k) (fun _ i => s.size - (intOf i).toNat)
  case atStart => exact ⟨0, Nat.zero_le _, rfl, rfl⟩
  case round =>
    obtain ⟨k, hk, rfl, rfl⟩ := hrel
    by_cases hlt : k < s.size
    · have HK : Hid (digP s[k].toNat) := by have := HA.out.2 k hlt; rwa [bt_eq s k hlt] at this
      go_wp2_with (go_at_call 7; refine (switch_yes _ HK.out _).mono ?_; rintro e w' ⟨rfl, rfl⟩)
      go_round
      case rel => exact ⟨k + 1, by omega, by go_num, by go_num⟩
      case measure => simp [intOf]; omega
    · have b3 : ((k : Int) == (s.size : Int)) = true := by rw [beq_iff_eq]; omega
      go_wp2_with (go_at_call 8; refine (ZZ_any s _ true hs (by simp only [true_iff]; exact HA.out)).mono ?_; rintro e w' ⟨rfl, rfl⟩)
      go_ret
      exact ⟨rfl, rfl⟩

theorem table_no (s : ByteArray) (w : World) (hs : s.size ≤ 1048576) (j : Nat) (hj : j < s.size) (hno : ¬ digP (bt s j)) :
    Calls Try.prog 3 #[.string s] w fun e w' => e = .returned (.bool true) ∧ w' = w := by
  have HN : Hid (¬ digP (bt s j)) := hno
  have b1 : decide ((1048576 : Int) < (s.size : Int)) = false := by simp; omega
  have b2 : decide ((0 : Int) < (s.size : Int)) = true := by simp; omega
  clear hno
  go_enter Try.func3, Try.ntmps3
  go_wp2_with (go_at_call 6; refine (bytes_yes s _ hs).mono ?_; rintro e w ⟨rfl, rfl⟩)
  go_loop [3, 4] (fun t i => ∃ k c : Nat, k ≤ s.size ∧ i = .int .i64 k ∧ t = .int .i64 c ∧ c ≤ k ∧ (j < k → c < k)) (fun _ i => s.size - (intOf i).toNat)
  case atStart => exact ⟨0, 0, Nat.zero_le _, rfl, rfl, Nat.le_refl _, fun h => absurd h (by omega)⟩
  case round =>
    obtain ⟨k, c, hk, rfl, rfl, hc, hjk⟩ := hrel
    have HJ : Hid (j < k → c < k) := hjk
    clear hjk
    by_cases hlt : k < s.size
    · by_cases hd : digP s[k].toNat
      · have HK : Hid (digP s[k].toNat) := hd
        have hne : k ≠ j := by
          intro e
          apply HN.out
          subst e
          rw [bt_eq s k hlt]
          exact hd
        have HE : Hid (k ≠ j) := hne
        clear hd hne
        go_wp2_with (go_at_call 7; refine (switch_yes _ HK.out _).mono ?_; rintro e w' ⟨rfl, rfl⟩)
        go_round
        case rel => exact ⟨k + 1, c + 1, by omega, by go_num, by go_num, by omega, fun h => by have := HJ.out; have := HE.out; omega⟩
        case measure => simp [intOf]; omega
      · have HK : Hid (¬ digP s[k].toNat) := hd
        clear hd
        go_wp2_with (go_at_call 7; refine (switch_no _ HK.out _).mono ?_; rintro e w' ⟨rfl, rfl⟩)
        go_round
        case rel => exact ⟨k + 1, c, by omega, by go_num, rfl, by omega, fun h => by omega⟩
        case measure => simp [intOf]; omega
    · have hcl : c < s.size := by have := HJ.out (by omega); omega
      have b3 : ((c : Int) == (s.size : Int)) = false := by rw [beq_eq_false_iff_ne]; omega
      go_wp2_with (go_at_call 8; refine (ZZ_any s _ false hs (by simp only [Bool.false_eq_true, false_iff]; exact fun ha => HN.out (ha.2 j hj))).mono ?_; rintro e w' ⟨rfl, rfl⟩)
      go_ret
      exact ⟨rfl, rfl⟩

theorem table_none (s : ByteArray) (w : World) (hz : s.size = 0) :
    Calls Try.prog 3 #[.string s] w fun e w' => e = .returned (.bool true) ∧ w' = w := by
  have hs : s.size ≤ 1048576 := by omega
  have HZ : Hid (s.size = 0) := hz
  have b1 : decide ((1048576 : Int) < (s.size : Int)) = false := decide_eq_false (by omega)
  have b2 : decide ((0 : Int) < (s.size : Int)) = false := decide_eq_false (by omega)
  have b4 : decide (0 < s.size) = false := decide_eq_false (by omega)
  clear hz
  go_enter Try.func3, Try.ntmps3
  go_wp2_with (go_at_call 6; refine (bytes_yes s _ hs).mono ?_; rintro e w ⟨rfl, rfl⟩)
  go_loop [3, 4] (fun t i => ∃ k : Nat, k ≤ s.size ∧ i = .int .i64 k ∧ t = .int .i64 k) (fun _ i => s.size - (intOf i).toNat)
  case atStart => exact ⟨0, Nat.zero_le _, rfl, rfl⟩
  case round =>
    obtain ⟨k, hk, rfl, rfl⟩ := hrel
    have hk2 : ¬ k < s.size := by have := HZ.out; omega
    go_wp2_with (go_at_call 8; refine (ZZ_any s _ false hs (by simp only [Bool.false_eq_true, false_iff]; exact fun ha => by have := ha.1; have := HZ.out; omega)).mono ?_; rintro e w' ⟨rfl, rfl⟩)
    go_ret
    exact ⟨rfl, rfl⟩

theorem table_walk (s : ByteArray) (w : World) :
    Calls Try.prog 3 #[.string s] w fun e w' => e = .returned (.bool true) ∧ w' = w := by
  by_cases h1 : 1048576 < s.size
  · exact table_big s w h1
  rcases Nat.eq_zero_or_pos s.size with h0 | h0
  · exact table_none s w h0
  by_cases hall : ∀ i, i < s.size → digP (bt s i)
  · exact table_yes s w (by omega) ⟨h0, hall⟩
  · have ⟨j, hj⟩ := Classical.not_forall.1 hall
    have ⟨hj1, hj2⟩ := Classical.not_imp.1 hj
    exact table_no s w (by omega) j hj1 hj2

end Go.Proofs.Qxb6602539a.Digits

/-
  Qxb6001670aName: the walk of 'FnSessionNameIsLongestNamePrefix'.
-/
import Derived.Test.Qxb6001670aRows
import Derived.WalkKit
import Derived.ProofKit
import Derived.WalkSpells
import Derived.WalkLawsBesides
import Derived.Lib.Strings
namespace Go.Proofs.Qxb6001670a.Name
open Go.ChangeShapes Go.WideShapes Go.ChangeAt Go.RowKit

/-- Byte i of a string, as a number. -/
def bt (s : ByteArray) (i : Nat) : Nat := if h : i < s.size then s[i].toNat else 0
theorem bt_eq (s : ByteArray) (i : Nat) (h : i < s.size) : bt s i = s[i].toNat := by unfold bt; rw [dif_pos h]

def letP (n : Nat) : Prop := (97 ≤ n ∧ n ≤ 122) ∨ (65 ≤ n ∧ n ≤ 90)
def restP (n : Nat) : Prop := letP n ∨ n = 95 ∨ (48 ≤ n ∧ n ≤ 57)
def okP (s : ByteArray) (i : Nat) : Prop := letP (bt s i) ∨ (0 < i ∧ restP (bt s i))

/-- k is where the name in s ends. -/
structure Ends (s : ByteArray) (k : Nat) : Prop where
  le : k ≤ s.size
  all : ∀ i, i < k → okP s i
  past : k < s.size → ¬ okP s k

theorem let_yes (n : Nat) (h : letP n) (w : World) : Calls Try.prog 45 #[.int .u8 (n : Int)] w fun e w' => e = .returned (.bool true) ∧ w' = w := by
  rcases h with ⟨a, b⟩ | ⟨a, b⟩
  · have a' : (97 : Int) ≤ n := by omega
    have b' : (n : Int) ≤ 122 := by omega
    go_enter Try.func45, Try.ntmps45
    go_wp2
    go_ret
    exact ⟨rfl, rfl⟩
  · have c' : ¬ (97 : Int) ≤ n := by omega
    have a' : (65 : Int) ≤ n := by omega
    have b' : (n : Int) ≤ 90 := by omega
    go_enter Try.func45, Try.ntmps45
    go_wp2
    go_ret
    exact ⟨rfl, rfl⟩

theorem let_no (n : Nat) (h : ¬ letP n) (w : World) : Calls Try.prog 45 #[.int .u8 (n : Int)] w fun e w' => e = .returned (.bool false) ∧ w' = w := by
  unfold letP at h
  by_cases h1 : (97 : Int) ≤ n
  · have b' : ¬ (n : Int) ≤ 122 := by omega
    have a' : (65 : Int) ≤ n := by omega
    have c' : ¬ (n : Int) ≤ 90 := by omega
    clear h
    go_enter Try.func45, Try.ntmps45
    go_wp2
    go_ret
    exact ⟨rfl, rfl⟩
  · by_cases h2 : (65 : Int) ≤ n
    · have c' : ¬ (n : Int) ≤ 90 := by omega
      clear h
      go_enter Try.func45, Try.ntmps45
      go_wp2
      go_ret
      exact ⟨rfl, rfl⟩
    · clear h
      go_enter Try.func45, Try.ntmps45
      go_wp2
      go_ret
      exact ⟨rfl, rfl⟩

theorem rest_yes (n : Nat) (h : restP n) (w : World) : Calls Try.prog 46 #[.int .u8 (n : Int)] w fun e w' => e = .returned (.bool true) ∧ w' = w := by
  by_cases hl : letP n
  · have H : Hid (letP n) := hl
    clear hl h
    go_enter Try.func46, Try.ntmps46
    go_wp2_with (go_at_call 45; refine (let_yes _ H.out _).mono ?_; rintro e w' ⟨rfl, rfl⟩)
    go_ret
    exact ⟨rfl, rfl⟩
  · have h' := h.resolve_left hl
    have H : Hid (¬ letP n) := hl
    clear hl h
    by_cases h95 : (n : Int) = 95
    · have b : ((n : Int) == 95) = true := by rw [beq_iff_eq]; exact h95
      clear h95 h'
      go_enter Try.func46, Try.ntmps46
      go_wp2_with (go_at_call 45; refine (let_no _ H.out _).mono ?_; rintro e w' ⟨rfl, rfl⟩)
      go_ret
      exact ⟨rfl, rfl⟩
    · have b : ((n : Int) == 95) = false := by rw [beq_eq_false_iff_ne]; exact h95
      have b1 : (48 : Int) ≤ n := by omega
      have b2 : (n : Int) ≤ 57 := by omega
      clear h'
      go_enter Try.func46, Try.ntmps46
      go_wp2_with (go_at_call 45; refine (let_no _ H.out _).mono ?_; rintro e w' ⟨rfl, rfl⟩)
      go_ret
      exact ⟨rfl, rfl⟩

theorem rest_no (n : Nat) (h : ¬ restP n) (w : World) : Calls Try.prog 46 #[.int .u8 (n : Int)] w fun e w' => e = .returned (.bool false) ∧ w' = w := by
  unfold restP at h
  have hl : ¬ letP n := fun x => h (Or.inl x)
  have H : Hid (¬ letP n) := hl
  have h' : ¬ (n = 95 ∨ 48 ≤ n ∧ n ≤ 57) := fun x => h (Or.inr x)
  clear hl h
  have b : ((n : Int) == 95) = false := by rw [beq_eq_false_iff_ne]; omega
  by_cases h2 : (48 : Int) ≤ n
  · have c' : decide ((n : Int) ≤ 57) = false := by simp; omega
    clear h'
    go_enter Try.func46, Try.ntmps46
    go_wp2_with (go_at_call 45; refine (let_no _ H.out _).mono ?_; rintro e w' ⟨rfl, rfl⟩)
    go_ret
    exact ⟨rfl, rfl⟩
  · clear h'
    go_enter Try.func46, Try.ntmps46
    go_wp2_with (go_at_call 45; refine (let_no _ H.out _).mono ?_; rintro e w' ⟨rfl, rfl⟩)
    go_ret
    exact ⟨rfl, rfl⟩


/-- 'zzIsName' where every byte fits. -/
theorem isName_yes (t : ByteArray) (w : World) (ht : t.size ≤ 4096) (h0 : 0 < t.size) (hall : ∀ i, i < t.size → okP t i) :
    Calls Try.prog 44 #[.string t] w fun e w' => e = .returned (.bool true) ∧ w' = w := by
  have hb : (((t.size : Nat) : Int) == 0) = false := by rw [beq_eq_false_iff_ne]; omega
  have HA : Hid (∀ i, i < t.size → okP t i) := hall
  have H0 : Hid (letP t[0].toNat) := by
    have := hall 0 h0
    unfold okP at this
    rw [bt_eq t 0 h0] at this
    exact this.resolve_right (fun x => absurd x.1 (by omega))
  clear hall
  go_enter Try.func44, Try.ntmps44
  go_wp2_with (go_at_call 45; refine (let_yes _ H0.out _).mono ?_; rintro e w' ⟨rfl, rfl⟩)
  go_loop [3] (fun i => ∃ k : Nat, 1 ≤ k ∧ k ≤ t.size ∧ i = .int .i64 k) (fun i => t.size - (intOf i).toNat)
  case atStart => exact ⟨1, Nat.le_refl _, h0, rfl⟩
  case round =>
    obtain ⟨k, hk1, hk2, rfl⟩ := hrel
    by_cases hlt : k < t.size
    · have HK : Hid (restP t[k].toNat) := by
        have := HA.out k hlt
        unfold okP at this
        rw [bt_eq t k hlt] at this
        rcases this with h | h
        · exact Or.inl h
        · exact h.2
      go_wp2_with (go_at_call 46; refine (rest_yes _ HK.out _).mono ?_; rintro e w' ⟨rfl, rfl⟩)
      go_round
      case rel => exact ⟨k + 1, by omega, by omega, by go_num⟩
      case measure => simp [intOf]; omega
    · go_wp2
      go_ret
      exact ⟨rfl, rfl⟩

/-- 'zzIsName' where some byte does not fit. -/
theorem isName_no (t : ByteArray) (w : World) (ht : t.size ≤ 4096) (j : Nat) (hj : j < t.size) (hno : ¬ okP t j) :
    Calls Try.prog 44 #[.string t] w fun e w' => e = .returned (.bool false) ∧ w' = w := by
  have h0 : 0 < t.size := by omega
  have hb : (((t.size : Nat) : Int) == 0) = false := by rw [beq_eq_false_iff_ne]; omega
  have HN : Hid (¬ okP t j) := hno
  clear hno
  by_cases hl : letP t[0].toNat
  · have H0 : Hid (letP t[0].toNat) := hl
    have hj1 : 1 ≤ j := by
      rcases Nat.eq_zero_or_pos j with e | e
      · exfalso
        apply HN.out
        subst e
        refine Or.inl ?_
        rw [bt_eq t 0 h0]
        exact hl
      · exact e
    clear hl
    go_enter Try.func44, Try.ntmps44
    go_wp2_with (go_at_call 45; refine (let_yes _ H0.out _).mono ?_; rintro e w' ⟨rfl, rfl⟩)
    go_loop [3] (fun i => ∃ k : Nat, 1 ≤ k ∧ k ≤ j ∧ i = .int .i64 k) (fun i => t.size - (intOf i).toNat)
    case atStart => exact ⟨1, Nat.le_refl _, hj1, rfl⟩
    case round =>
      obtain ⟨k, hk1, hk2, rfl⟩ := hrel
      have hlt : k < t.size := by omega
      by_cases hr : restP t[k].toNat
      · have HK : Hid (restP t[k].toNat) := hr
        have hkj : k < j := by
          rcases Nat.lt_or_ge k j with e | e
          · exact e
          · exfalso
            have e' : k = j := by omega
            apply HN.out
            subst e'
            refine Or.inr ⟨hk1, ?_⟩
            rw [bt_eq t k hlt]
            exact hr
        clear hr
        go_wp2_with (go_at_call 46; refine (rest_yes _ HK.out _).mono ?_; rintro e w' ⟨rfl, rfl⟩)
        go_round
        case rel => exact ⟨k + 1, by omega, by omega, by go_num⟩
        case measure => simp [intOf]; omega
      · have HK : Hid (¬ restP t[k].toNat) := hr
        clear hr
        go_wp2_with (go_at_call 46; refine (rest_no _ HK.out _).mono ?_; rintro e w' ⟨rfl, rfl⟩)
        go_ret
        exact ⟨rfl, rfl⟩
  · have H0 : Hid (¬ letP t[0].toNat) := hl
    clear hl
    go_enter Try.func44, Try.ntmps44
    go_wp2_with (go_at_call 45; refine (let_no _ H0.out _).mono ?_; rintro e w' ⟨rfl, rfl⟩)
    go_ret
    exact ⟨rfl, rfl⟩


theorem or95 {x : Int} (h : (x == 95) = true ∨ x ≤ 57) (h2 : ¬ x = 95) : x ≤ 57 := by
  rcases h with h | h
  · exact absurd (beq_iff_eq.1 h) h2
  · exact h

theorem ok_iff (s : ByteArray) (k : Nat) (h : k < s.size) :
    okP s k ↔ (97 ≤ s[k].toNat ∧ s[k].toNat ≤ 122) ∨ (65 ≤ s[k].toNat ∧ s[k].toNat ≤ 90) ∨ (0 < k ∧ (s[k].toNat = 95 ∨ (48 ≤ s[k].toNat ∧ s[k].toNat ≤ 57))) := by
  unfold okP restP letP
  rw [bt_eq s k h]
  omega

theorem all_step {s : ByteArray} {k : Nat} (h : ∀ j, j < k → okP s j) (hk : okP s k) : ∀ j, j < k + 1 → okP s j := by
  intro j hj
  rcases Nat.lt_or_ge j k with e | e
  · exact h j e
  · have : j = k := by omega
    subst this
    exact hk

theorem extract_all (s : ByteArray) : s.extract 0 s.size = s := ByteArray.extract_zero_size

theorem ret_all (s : ByteArray) : Ending.returned (.string s) = .returned (.string (s.extract 0 s.size)) := by rw [extract_all]

theorem sess_any (s : ByteArray) (w : World) (hs : s.size ≤ 4096) :
    Calls Try.prog 43 #[.string s] w fun e w' => ∃ k, Ends s k ∧ e = .returned (.string (s.extract 0 k)) ∧ w' = w := by
  go_enter Try.func43, Try.ntmps43
  go_wp2
  go_loop [3] (fun i => ∃ k : Nat, k ≤ s.size ∧ (∀ j, j < k → okP s j) ∧ i = .int .i64 k) (fun i => s.size - (intOf i).toNat)
  case atStart => exact ⟨0, Nat.zero_le _, fun j hj => absurd hj (by omega), rfl⟩
  case round =>
    obtain ⟨k, hk, hall, rfl⟩ := hrel
    have HA : Hid (∀ j, j < k → okP s j) := hall
    clear hall
    by_cases hlt : k < s.size
    · go_wp2
      all_goals first
        | (have hok : okP s k := by rw [ok_iff s k hlt]; first | omega | (have h57 := or95 (by assumption) (by assumption); omega)
           go_round
           case rel => exact ⟨k + 1, by omega, all_step HA.out hok, by go_num⟩
           case measure => simp [intOf]; omega)
        | (have hno : ¬ okP s k := by rw [ok_iff s k hlt]; omega
           go_ret
           exact ⟨k, ⟨hk, HA.out, fun _ => hno⟩, rfl, rfl⟩)
    · obtain rfl : k = s.size := by omega
      go_wp2
      go_ret
      exact ⟨s.size, ⟨Nat.le_refl _, HA.out, fun h => absurd h (by omega)⟩, ret_all s, rfl⟩

theorem ZZsess_any (s : ByteArray) (w : World) (hs : s.size ≤ 4096) :
    Calls Try.prog 33 #[.string s] w fun e w' => ∃ k, Ends s k ∧ e = .returned (.string (s.extract 0 k)) ∧ w' = w := by
  go_enter Try.func33, Try.ntmps33
  go_wp2_with fail
  refine (sess_any s _ hs).mono ?_
  rintro e w' ⟨k, hk, rfl, rfl⟩
  have HK : Hid (Ends s k) := hk
  clear hk
  go_wp2
  go_ret
  exact ⟨k, HK.out, rfl, rfl⟩


theorem size_cut (s : ByteArray) (m : Nat) (h : m ≤ s.size) : (s.extract 0 m).size = m := by
  rw [ByteArray.size_extract]; omega

theorem bt_cut (s : ByteArray) (m i : Nat) (h : m ≤ s.size) (hi : i < m) : bt (s.extract 0 m) i = bt s i := by
  have h1 : i < (s.extract 0 m).size := by rw [size_cut s m h]; exact hi
  rw [bt_eq _ _ h1, bt_eq _ _ (by omega)]
  congr 1
  rw [ByteArray.getElem_extract]
  simp

theorem ok_cut (s : ByteArray) (m i : Nat) (h : m ≤ s.size) (hi : i < m) : okP (s.extract 0 m) i ↔ okP s i := by
  unfold okP
  rw [bt_cut s m i h hi]

theorem name_cut_yes (s : ByteArray) (k : Nat) (w : World) (hs : s.size ≤ 4096) (hE : Ends s k) (hk : 0 < k) :
    Calls Try.prog 44 #[.string (s.extract 0 k)] w fun e w' => e = .returned (.bool true) ∧ w' = w :=
  isName_yes _ w (by rw [size_cut s k hE.le]; have := hE.le; omega) (by rw [size_cut s k hE.le]; exact hk)
    (fun i hi => by rw [size_cut s k hE.le] at hi; rw [ok_cut s k i hE.le hi]; exact hE.all i hi)

theorem name_cut_no (s : ByteArray) (k m : Nat) (w : World) (hs : s.size ≤ 4096) (hE : Ends s k) (hm : m ≤ s.size) (hk : k < m) :
    Calls Try.prog 44 #[.string (s.extract 0 m)] w fun e w' => e = .returned (.bool false) ∧ w' = w :=
  isName_no _ w (by rw [size_cut s m hm]; omega) k (by rw [size_cut s m hm]; exact hk)
    (by rw [ok_cut s m k hm hk]; exact hE.past (by omega))

theorem long_any (s : ByteArray) (k : Nat) (w : World) (hs : s.size ≤ 4096) (hE : Ends s k) :
    Calls Try.prog 34 #[.string s] w fun e w' => e = .returned (.string (s.extract 0 k)) ∧ w' = w := by
  have hle := hE.le
  have HE : Hid (Ends s k) := hE
  clear hE
  go_enter Try.func34, Try.ntmps34
  go_wp2
  go_loop [3] (fun i => ∃ m : Nat, k ≤ m ∧ m ≤ s.size ∧ i = .int .i64 m) (fun i => (intOf i).toNat)
  case atStart => exact ⟨s.size, hle, Nat.le_refl _, rfl⟩
  case round =>
    obtain ⟨m, hkm, hm, rfl⟩ := hrel
    by_cases hpos : 0 < m
    · by_cases hlt : k < m
      · go_wp2_with (go_at_call 44; refine (name_cut_no s k m _ hs HE.out hm hlt).mono ?_; rintro e w' ⟨rfl, rfl⟩)
        go_round
        case rel => exact ⟨m - 1, by omega, by omega, by go_num⟩
        case measure => simp [intOf]; omega
      · obtain rfl : k = m := by omega
        go_wp2_with (go_at_call 44; refine (name_cut_yes s k _ hs HE.out hpos).mono ?_; rintro e w' ⟨rfl, rfl⟩)
        go_ret
        exact ⟨rfl, rfl⟩
    · obtain rfl : m = 0 := by omega
      obtain rfl : k = 0 := by omega
      go_wp2
      go_ret
      exact ⟨rfl, rfl⟩

theorem bytes_yes (s : ByteArray) (w : World) (hs : s.size ≤ 1048576) :
    Calls Try.prog 32 #[.string s] w fun e w' => e = .returned (.bool true) ∧ w' = w := by
  have h : ¬ (1048576 : Int) < (s.size : Int) := by omega
  go_enter Try.func32, Try.ntmps32
  go_wp2
  go_ret
  exact ⟨rfl, rfl⟩

theorem bytes_no (s : ByteArray) (w : World) (hs : 1048576 < s.size) :
    Calls Try.prog 32 #[.string s] w fun e w' => e = .returned (.bool false) ∧ w' = w := by
  have h : (1048576 : Int) < (s.size : Int) := by omega
  go_enter Try.func32, Try.ntmps32
  go_wp2
  go_ret
  exact ⟨rfl, rfl⟩

theorem walk (s : ByteArray) (w : World) :
    Calls Try.prog 11 #[.string s] w fun e w' => e = .returned (.bool true) ∧ w' = w := by
  by_cases h1 : 1048576 < s.size
  · go_enter Try.func11, Try.ntmps11
    go_wp2_with (go_at_call 32; refine (bytes_no s _ h1).mono ?_; rintro e w' ⟨rfl, rfl⟩)
    go_ret
    exact ⟨rfl, rfl⟩
  by_cases h2 : 4096 < s.size
  · go_enter Try.func11, Try.ntmps11
    go_wp2_with (go_at_call 32; refine (bytes_yes s _ (by omega)).mono ?_; rintro e w' ⟨rfl, rfl⟩)
    go_ret
    exact ⟨rfl, rfl⟩
  go_enter Try.func11, Try.ntmps11
  go_wp2_with fail
  refine (bytes_yes s _ (by omega)).mono ?_
  rintro e w' ⟨rfl, rfl⟩
  go_wp2_with fail
  refine (ZZsess_any s _ (by omega)).mono ?_
  rintro e w' ⟨k, hk, rfl, rfl⟩
  have HK : Hid (Ends s k) := hk
  clear hk
  go_wp2_with fail
  refine (long_any s k _ (by omega) HK.out).mono ?_
  rintro e w' ⟨rfl, rfl⟩
  go_wp2
  go_ret
  exact ⟨rfl, rfl⟩

end Go.Proofs.Qxb6001670a.Name

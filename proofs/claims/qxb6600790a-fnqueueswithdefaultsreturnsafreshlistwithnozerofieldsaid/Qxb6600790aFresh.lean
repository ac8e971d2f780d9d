/-
  Qxb6600790aFresh: the walk of 'FnQueuesWithDefaultsReturnsAFreshListWithNoZeroField'.
-/
import Derived.Test.Qxb6600790aQueues
namespace Go.Proofs.Qxb6600790a.Fresh
open Go.ChangeShapes Go.WideShapes Go.ChangeAt Go.RowKit Go.Proofs.Qxb6600790a.Base Go.Proofs.Qxb6600790a.Queues

/-- The call returned some bool. -/
def IsBool (e : Ending) : Prop := ∃ r, e = .returned (.bool r)
/-- The call returned a number; where it is at most 1048576, both lengths are at most 65536. -/
def IsCount (n m : Nat) (e : Ending) : Prop := ∃ t : Int, e = .returned (.int .i64 t) ∧ (t ≤ 1048576 → n ≤ 65536 ∧ m ≤ 65536)

set_option maxHeartbeats 1000000 in
theorem bytes_some (b off n cap : Nat) (a2 : Option Addr) (m cap2 : Nat) (nm : Nat → ByteArray) (w : World) (hn : n ≤ 9223372036854775807) (hm : m ≤ 9223372036854775807) (hr : Row w b off n (fun i => .string (nm i))) (hs : ∀ i, i < n → (nm i).size ≤ 9223372036854775807) :
    Calls Try.prog 13 #[.slice (some ⟨b, off, none⟩) n cap, .slice a2 m cap2] w fun e w' => IsBool e ∧ w' = w := by
  have H1 : Hid (Row w b off n (fun i => .string (nm i))) := hr
  have H2 : Hid (∀ i, i < n → (nm i).size ≤ 9223372036854775807) := hs
  clear hr hs
  by_cases hb : 1048576 < n
  · go_enter Try.func13, Try.ntmps13
    go_wp2
    go_ret
    exact ⟨⟨_, rfl⟩, rfl⟩
  have hb1 : decide ((1048576 : Int) < n) = false := by simp; omega
  go_enter Try.func13, Try.ntmps13
  go_wp2
  go_loop [5, 6] (fun t i => ∃ k : Nat, k ≤ n ∧ i = .int .i64 k ∧ ∃ q : Nat, q ≤ 1048576 ∧ t = .int .i64 q) (fun _ i => n - (intOf i).toNat)
  case atStart => exact ⟨0, Nat.zero_le _, rfl, n, by omega, rfl⟩
  case round =>
    obtain ⟨k, hk, rfl, q, hq, rfl⟩ := hrel
    by_cases hlt : k < n
    · have d0 := H1.out.2 k hlt
      have hz := H2.out k hlt
      go_wp2
      all_goals first
        | (go_ret; exact ⟨⟨_, rfl⟩, rfl⟩)
        | (go_round
           case rel => exact ⟨k + 1, by omega, by go_num, q + (nm k).size, by omega, by go_num⟩
           case measure => simp [intOf]; omega)
    · go_wp2
      all_goals go_ret
      all_goals exact ⟨⟨_, rfl⟩, rfl⟩

theorem bytes_none (a : Option Addr) (cap : Nat) (a2 : Option Addr) (m cap2 : Nat) (w : World) (hm : m ≤ 9223372036854775807) :
    Calls Try.prog 13 #[.slice a 0 cap, .slice a2 m cap2] w fun e w' => IsBool e ∧ w' = w := by
  go_enter Try.func13, Try.ntmps13
  go_wp2
  refine wp_loop_rounds 1 ?_
  rw [rounds_succ]
  go_wp2
  all_goals go_ret
  all_goals exact ⟨⟨_, rfl⟩, rfl⟩

set_option maxHeartbeats 1000000 in
theorem count_some (b off n cap : Nat) (a2 : Option Addr) (m cap2 : Nat) (nm : Nat → ByteArray) (w : World) (hn : n ≤ 9223372036854775807) (hm : m ≤ 9223372036854775807) (hr : Row w b off n (fun i => .string (nm i))) (hs : ∀ i, i < n → (nm i).size ≤ 9223372036854775807) :
    Calls Try.prog 8 #[.slice (some ⟨b, off, none⟩) n cap, .slice a2 m cap2] w fun e w' => IsCount n m e ∧ w' = w := by
  have H1 : Hid (Row w b off n (fun i => .string (nm i))) := hr
  have H2 : Hid (∀ i, i < n → (nm i).size ≤ 9223372036854775807) := hs
  clear hr hs
  by_cases hb : 65536 < n
  · go_enter Try.func8, Try.ntmps8
    go_wp2
    go_ret
    exact ⟨⟨1048577, rfl, fun h => absurd h (by omega)⟩, rfl⟩
  have hb1 : decide ((65536 : Int) < n) = false := by simp; omega
  by_cases hc : 65536 < m
  · go_enter Try.func8, Try.ntmps8
    go_wp2
    go_ret
    exact ⟨⟨1048577, rfl, fun h => absurd h (by omega)⟩, rfl⟩
  have hb2 : decide ((65536 : Int) < m) = false := by simp; omega
  go_enter Try.func8, Try.ntmps8
  go_wp2
  go_loop [5, 24] (fun t i => ∃ k : Nat, k ≤ n ∧ i = .int .i64 k ∧ ∃ q : Nat, q ≤ 1572864 ∧ t = .int .i64 q) (fun _ i => n - (intOf i).toNat)
  case atStart => exact ⟨0, Nat.zero_le _, rfl, 16 * n + 8 * m, by omega, by go_num⟩
  case round =>
    obtain ⟨k, hk, rfl, q, hq, rfl⟩ := hrel
    by_cases hlt : k < n
    · have d0 := H1.out.2 k hlt
      have hz := H2.out k hlt
      go_wp2
      all_goals first
        | (go_ret; exact ⟨⟨_, rfl, fun h => by omega⟩, rfl⟩)
        | (go_round
           case rel => exact ⟨k + 1, by omega, by go_num, q + (nm k).size, by omega, by go_num⟩
           case measure => simp [intOf]; omega)
    · go_wp2
      all_goals go_ret
      all_goals exact ⟨⟨_, rfl, fun h => by omega⟩, rfl⟩

theorem count_none (a : Option Addr) (cap : Nat) (a2 : Option Addr) (m cap2 : Nat) (w : World) (hm : m ≤ 9223372036854775807) :
    Calls Try.prog 8 #[.slice a 0 cap, .slice a2 m cap2] w fun e w' => IsCount 0 m e ∧ w' = w := by
  by_cases hc : 65536 < m
  · go_enter Try.func8, Try.ntmps8
    go_wp2
    go_ret
    exact ⟨⟨1048577, rfl, fun h => absurd h (by omega)⟩, rfl⟩
  have hb2 : decide ((65536 : Int) < m) = false := by simp; omega
  go_enter Try.func8, Try.ntmps8
  go_wp2
  refine wp_loop_rounds 1 ?_
  rw [rounds_succ]
  go_wp2
  all_goals go_ret
  all_goals exact ⟨⟨_, rfl, fun h => by omega⟩, rfl⟩

theorem ZZqwd_some (b n sCap : Nat) (nm : Nat → ByteArray) (wt : Nat → Int) (w : World) (hn : n ≤ 1048576) (h0 : 1 ≤ n) (hr : Row w b 0 (n * 2) (qv nm wt)) :
    Calls Try.prog 12 #[.slice (some ⟨b, 0, none⟩) n sCap] w fun e w' => e = .returned (.slice (some ⟨w.heap.size, 0, none⟩) n n) ∧ Fill w n n w' := by
  have HR : Hid (Row w b 0 (n * 2) (qv nm wt)) := hr
  clear hr
  go_enter Try.func12, Try.ntmps12
  go_wp2_with fail
  refine (qwd_some b n sCap nm wt _ hn h0 HR.out).mono ?_
  rintro e w' ⟨rfl, hF⟩
  have HF : Hid (Fill w n n w') := hF
  clear hF
  go_wp2
  go_ret
  exact ⟨rfl, HF.out⟩

theorem ZZqwd_none (a : Option Addr) (sCap : Nat) (w : World) :
    Calls Try.prog 12 #[.slice a 0 sCap] w fun e w' => e = .returned (.slice (some ⟨w.heap.size, 0, none⟩) 1 1) ∧ Fill w 1 1 w' := by
  go_enter Try.func12, Try.ntmps12
  go_wp2_with fail
  refine (qwd_none a sCap _).mono ?_
  rintro e w' ⟨rfl, hF⟩
  have HF : Hid (Fill w 1 1 w') := hF
  clear hF
  go_wp2
  go_ret
  exact ⟨rfl, HF.out⟩

/-- A slice value over a row of one-cell elements that lies in block b from its head on; b is no older than B. -/
def New (B : Nat) (w' : World) (b n : Nat) (f : Nat → Value) : Prop := B ≤ b ∧ Row w' b 0 n f

theorem clone9 (b off n cap : Nat) (z : Nat → ByteArray) (w : World) (hn : n ≤ 1048576) (hr : Row w b off n (fun i => .string (z i))) :
    Calls Try.prog 9 #[.slice (some ⟨b, off, none⟩) n cap] w fun e w' => ∃ b', e = .returned (.slice (some ⟨b', 0, none⟩) n n) ∧ Row w' b' 0 n (fun i => .string (z i)) ∧ Below w.heap.size w w' := by
  refine (clone_strings b off n cap z w hn hr).mono ?_
  rintro e w' ⟨rfl, h⟩
  exact ⟨_, rfl, ofRowIs h.row, h.below⟩

theorem clone10 (b off n cap : Nat) (z : Nat → Int) (w : World) (hn : n ≤ 1048576) (hr : Row w b off n (fun i => .int .i64 (z i))) :
    Calls Try.prog 10 #[.slice (some ⟨b, off, none⟩) n cap] w fun e w' => ∃ b', e = .returned (.slice (some ⟨b', 0, none⟩) n n) ∧ Row w' b' 0 n (fun i => .int .i64 (z i)) ∧ Below w.heap.size w w' := by
  refine (clone_ints b off n cap z w hn hr).mono ?_
  rintro e w' ⟨rfl, h⟩
  exact ⟨_, rfl, ofRowIs h.row, h.below⟩

theorem qv_congr {nm nm' : Nat → ByteArray} {wt wt' : Nat → Int} {n j : Nat} (h1 : ∀ i, i < n → nm i = nm' i) (h2 : ∀ i, i < n → wt i = wt' i) (hj : j < n * 2) : qv nm wt j = qv nm' wt' j := by
  unfold qv
  rw [h1 _ (by omega), h2 _ (by omega)]

theorem build11 (b1 o1 c1 b2 o2 c2 n : Nat) (nm : Nat → ByteArray) (wt : Nat → Int) (w : World) (hn : n ≤ 1048576) (h1 : Row w b1 o1 n (fun i => .string (nm i))) (h2 : Row w b2 o2 n (fun i => .int .i64 (wt i))) :
    Calls Try.prog 11 #[.slice (some ⟨b1, o1, none⟩) n c1, .slice (some ⟨b2, o2, none⟩) n c2] w fun e w' => ∃ b', e = .returned (.slice (some ⟨b', 0, none⟩) n n) ∧ Row w' b' 0 (n * 2) (qv nm wt) ∧ Below w.heap.size w w' := by
  refine (build_any b1 o1 c1 b2 o2 c2 n nm wt w hn h1 h2).mono ?_
  rintro e w' ⟨rfl, h⟩
  refine ⟨_, rfl, ofRowIs (h.row.congr (fun i hi => qv_congr (n := n) (fun i hi => ?_) (fun i hi => ?_) hi)), h.below⟩
  · rw [if_pos hi]
  · rw [if_pos hi]

/-- What 'queuesWithDefaults' hands back: a new row of m filled queues. -/
def Filled (w : World) (m b : Nat) (w' : World) : Prop :=
  w.heap.size ≤ b ∧ (∃ (nm : Nat → ByteArray) (wt : Nat → Int), w'.rowIs b 32 (m * 2) (qv nm wt) ∧ (∀ i, i < m → (nm i).size ≠ 0 ∧ wt i ≠ 0)) ∧ Below w.heap.size w w'

theorem qwd12 (b n sCap : Nat) (nm : Nat → ByteArray) (wt : Nat → Int) (w : World) (hn : n ≤ 1048576) (h0 : 1 ≤ n) (hr : Row w b 0 (n * 2) (qv nm wt)) :
    Calls Try.prog 12 #[.slice (some ⟨b, 0, none⟩) n sCap] w fun e w' => ∃ b', e = .returned (.slice (some ⟨b', 0, none⟩) n n) ∧ Filled w n b' w' := by
  refine (ZZqwd_some b n sCap nm wt w hn h0 hr).mono ?_
  rintro e w' ⟨rfl, nm1, wt1, h1, h2, h3, _⟩
  exact ⟨_, rfl, Nat.le_refl _, ⟨nm1, wt1, h1, h2⟩, h3⟩

theorem qwd12_none (a : Option Addr) (sCap : Nat) (w : World) :
    Calls Try.prog 12 #[.slice a 0 sCap] w fun e w' => ∃ b', e = .returned (.slice (some ⟨b', 0, none⟩) 1 1) ∧ Filled w 1 b' w' := by
  refine (ZZqwd_none a sCap w).mono ?_
  rintro e w' ⟨rfl, nm1, wt1, h1, h2, h3, _⟩
  exact ⟨_, rfl, Nat.le_refl _, ⟨nm1, wt1, h1, h2⟩, h3⟩

theorem rowAt {w : World} {b n : Nat} {f : Nat → Value} (h : Row w b 0 n f) {i : Nat} (hi : i < n) : w.cell? ⟨b, i, none⟩ = some (f i) := by
  have := h.2 i hi
  rwa [Nat.zero_add] at this

set_option maxHeartbeats 2000000 in
theorem walk_some (b1 o1 c1 b2 o2 c2 n : Nat) (nm : Nat → ByteArray) (wt : Nat → Int) (w : World) (h0 : 1 ≤ n) (hn : n ≤ 9223372036854775807)
    (h1 : Row w b1 o1 n (fun i => .string (nm i))) (h2 : Row w b2 o2 n (fun i => .int .i64 (wt i))) (hs : ∀ i, i < n → (nm i).size ≤ 9223372036854775807) :
    Calls Try.prog 4 #[.slice (some ⟨b1, o1, none⟩) n c1, .slice (some ⟨b2, o2, none⟩) n c2] w fun e w' => e = .returned (.bool true) ∧ Below w.heap.size w w' := by
  have H1 : Hid (Row w b1 o1 n (fun i => .string (nm i))) := h1
  have H2 : Hid (Row w b2 o2 n (fun i => .int .i64 (wt i))) := h2
  have H3 : Hid (∀ i, i < n → (nm i).size ≤ 9223372036854775807) := hs
  clear h1 h2 hs
  go_enter Try.func4, Try.ntmps4
  go_wp2_with fail
  refine (bytes_some b1 o1 n c1 _ n c2 nm _ hn hn H1.out H3.out).mono ?_
  rintro e w ⟨⟨r, rfl⟩, rfl⟩
  cases r with
  | false =>
    go_wp2
    go_ret
    exact ⟨rfl, Below.refl _ _⟩
  | true =>
    go_wp2_with fail
    refine (count_some b1 o1 n c1 _ n c2 nm _ hn hn H1.out H3.out).mono ?_
    rintro e w ⟨⟨t, rfl, ht⟩, rfl⟩
    by_cases hbig : 1048576 < t
    · go_wp2
      go_ret
      exact ⟨rfl, Below.refl _ _⟩
    · have hn2 : n ≤ 65536 := (ht (by omega)).1
      have hbg : decide ((1048576 : Int) < t) = false := by simp; omega
      have e3 : ((n : Int) != n) = false := by simp
      clear ht
      go_wp2_with fail
      refine (clone9 b1 o1 n c1 nm _ (by omega) H1.out).mono ?_
      rintro e w1 ⟨s1, rfl, r1, bel1⟩
      have R1 : Hid (Row w1 s1 0 n (fun i => .string (nm i))) := r1
      have G2 : Hid (Row w1 b2 o2 n (fun i => .int .i64 (wt i))) := H2.out.keep bel1 H2.out.1
      clear r1
      go_wp2_with fail
      refine (clone10 b2 o2 n c2 wt _ (by omega) G2.out).mono ?_
      rintro e w2 ⟨s2, rfl, r2, bel2⟩
      have R2 : Hid (Row w2 s2 0 n (fun i => .int .i64 (wt i))) := r2
      have R1 : Hid (Row w2 s1 0 n (fun i => .string (nm i))) := R1.out.keep bel2 R1.out.1
      have B2 : Hid (Below w.heap.size w w2) := bel1.trans (bel2.mono bel1.size)
      clear r2 bel1 bel2
      go_wp2_with fail
      refine (build11 s1 0 n s2 0 n n nm wt _ (by omega) R1.out R2.out).mono ?_
      rintro e w3 ⟨s3, rfl, r3, bel3⟩
      have R3 : Hid (Row w3 s3 0 (n * 2) (qv nm wt)) := r3
      have R1 : Hid (Row w3 s1 0 n (fun i => .string (nm i))) := R1.out.keep bel3 R1.out.1
      have R2 : Hid (Row w3 s2 0 n (fun i => .int .i64 (wt i))) := R2.out.keep bel3 R2.out.1
      have B3 : Hid (Below w.heap.size w w3) := B2.out.trans (bel3.mono B2.out.size)
      clear r3 bel3
      go_wp2_with fail
      refine (qwd12 s3 n n nm wt _ (by omega) h0 R3.out).mono ?_
      rintro e w4 ⟨s4, rfl, hge, ⟨nm4, wt4, row4, good4⟩, bel4⟩
      have R4 : Hid (w4.rowIs s4 32 (n * 2) (qv nm4 wt4)) := row4
      have G4 : Hid (∀ i, i < n → (nm4 i).size ≠ 0 ∧ wt4 i ≠ 0) := good4
      have B4 : Hid (Below w3.heap.size w3 w4) := bel4
      clear row4 good4 bel4
      have l1 : decide ((n : Int) < 1) = false := by simp; omega
      go_wp2
      go_loop [37] (fun i => ∃ k : Nat, k ≤ n ∧ i = .int .i64 k) (fun i => n - (intOf i).toNat)
      case atStart => exact ⟨0, Nat.zero_le _, rfl⟩
      case round =>
        obtain ⟨k, hk, rfl⟩ := hrel
        by_cases hlt : k < n
        · have d0 := R4.out.cell (i := k * 2) (by omega)
          have d1 := R4.out.cell (i := k * 2 + 1) (by omega)
          rw [qv_name] at d0
          rw [qv_weight] at d1
          have e1 := notEmpty_of _ (G4.out k hlt).1
          have e2 : (wt4 k == 0) = false := by rw [beq_eq_false_iff_ne]; exact (G4.out k hlt).2
          go_wp2
          go_round
          case rel => exact ⟨k + 1, by omega, by go_num⟩
          case measure => simp [intOf]; omega
        · go_wp2
          go_loopw [57] (fun i wr => ∃ k : Nat, k ≤ n ∧ i = .int .i64 k ∧ ∃ nm5 wt5, wr.rowIs s4 32 (n * 2) (qv nm5 wt5) ∧ Below w3.heap.size w3 wr) (fun i _ => n - (intOf i).toNat)
          case atStart => exact ⟨0, Nat.zero_le _, rfl, nm4, wt4, R4.out, B4.out⟩
          case round =>
            obtain ⟨k5, hk5, rfl, nm5, wt5, row5, bel5⟩ := hrel
            by_cases hlt5 : k5 < n
            · have R5 : Hid (wr.rowIs s4 32 (n * 2) (qv nm5 wt5)) := row5
              have B5 : Hid (Below w3.heap.size w3 wr) := bel5
              have d0 := row5.cell (i := k5 * 2) (by omega)
              have d1 := row5.cell (i := k5 * 2 + 1) (by omega)
              have f0 := row5.frozen (k5 * 2)
              have f1 := row5.frozen (k5 * 2 + 1)
              rw [qv_name] at d0
              rw [qv_weight] at d1
              clear row5 bel5
              go_wp2
              go_roundw
              case rel => exact ⟨k5 + 1, by omega, by go_num, _, _, rowIs_weight (rowIs_name R5.out k5 _) k5 7, (B5.out.setCell hge _).setCell hge _⟩
              case measure => simp [intOf]; omega
            · have B5 : Hid (Below w3.heap.size w3 wr) := bel5
              clear row5 bel5
              go_wp2
              go_loopw [71] (fun i w6 => ∃ k : Nat, k ≤ n ∧ i = .int .i64 k ∧ Below w3.heap.size w3 w6) (fun i _ => n - (intOf i).toNat)
              case atStart => exact ⟨0, Nat.zero_le _, rfl, B5.out⟩
              case round =>
                obtain ⟨k6, hk6, rfl, bel6⟩ := hrel
                by_cases hlt6 : k6 < n
                · have d0 := rowAt (R3.out.keep bel6 R3.out.1) (i := k6 * 2) (by omega)
                  have d1 := rowAt (R3.out.keep bel6 R3.out.1) (i := k6 * 2 + 1) (by omega)
                  have d2 := rowAt (R1.out.keep bel6 R1.out.1) hlt6
                  have d3 := rowAt (R2.out.keep bel6 R2.out.1) hlt6
                  rw [qv_name] at d0
                  rw [qv_weight] at d1
                  have B6 : Hid (Below w3.heap.size w3 _) := bel6
                  clear bel6
                  go_wp2_with fail
                  go_quiet (fail)
                  go_wp2
                  go_roundw
                  case rel => exact ⟨k6 + 1, by omega, by go_num, below_drewN B6.out _⟩
                  case measure => simp [intOf]; omega
                · go_wp2
                  go_ret
                  exact ⟨rfl, B3.out.trans (bel6.mono B3.out.size)⟩

/-- What is known of the names' slice. -/
def Names (w : World) (a : Option Addr) (n : Nat) : Prop :=
  n = 0 ∨ ∃ (b off : Nat) (nm : Nat → ByteArray), a = some ⟨b, off, none⟩ ∧ Row w b off n (fun i => .string (nm i)) ∧ ∀ i, i < n → (nm i).size ≤ 9223372036854775807

theorem bytes_any (a : Option Addr) (n cap : Nat) (a2 : Option Addr) (m cap2 : Nat) (w : World) (hn : n ≤ 9223372036854775807) (hm : m ≤ 9223372036854775807) (h : Names w a n) :
    Calls Try.prog 13 #[.slice a n cap, .slice a2 m cap2] w fun e w' => IsBool e ∧ w' = w := by
  rcases h with rfl | ⟨b, off, nm, rfl, hr, hs⟩
  · exact bytes_none a cap a2 m cap2 w hm
  · exact bytes_some b off n cap a2 m cap2 nm w hn hm hr hs

theorem count_any (a : Option Addr) (n cap : Nat) (a2 : Option Addr) (m cap2 : Nat) (w : World) (hn : n ≤ 9223372036854775807) (hm : m ≤ 9223372036854775807) (h : Names w a n) :
    Calls Try.prog 8 #[.slice a n cap, .slice a2 m cap2] w fun e w' => IsCount n m e ∧ w' = w := by
  rcases h with rfl | ⟨b, off, nm, rfl, hr, hs⟩
  · exact count_none a cap a2 m cap2 w hm
  · exact count_some b off n cap a2 m cap2 nm w hn hm hr hs

set_option maxHeartbeats 1000000 in
theorem walk_ne (a : Option Addr) (n cap : Nat) (a2 : Option Addr) (m cap2 : Nat) (w : World) (hn : n ≤ 9223372036854775807) (hm : m ≤ 9223372036854775807) (h : Names w a n) (hne : n ≠ m) :
    Calls Try.prog 4 #[.slice a n cap, .slice a2 m cap2] w fun e w' => e = .returned (.bool true) ∧ Below w.heap.size w w' := by
  have H1 : Hid (Names w a n) := h
  have e3 : ((n : Int) != m) = true := by rw [bne_iff_ne]; omega
  clear h
  go_enter Try.func4, Try.ntmps4
  go_wp2_with fail
  refine (bytes_any a n cap a2 m cap2 _ hn hm H1.out).mono ?_
  rintro e w ⟨⟨r, rfl⟩, rfl⟩
  cases r with
  | false =>
    go_wp2
    go_ret
    exact ⟨rfl, Below.refl _ _⟩
  | true =>
    go_wp2_with fail
    refine (count_any a n cap a2 m cap2 _ hn hm H1.out).mono ?_
    rintro e w ⟨⟨t, rfl, ht⟩, rfl⟩
    by_cases hbig : 1048576 < t
    · go_wp2
      go_ret
      exact ⟨rfl, Below.refl _ _⟩
    · have hbg : decide ((1048576 : Int) < t) = false := by simp; omega
      clear ht
      go_wp2
      go_ret
      exact ⟨rfl, Below.refl _ _⟩

set_option maxHeartbeats 2000000 in
theorem walk_none (a : Option Addr) (c1 : Nat) (a2 : Option Addr) (c2 : Nat) (w : World) (ha : a = none → c1 = 0) (ha2 : a2 = none → c2 = 0) :
    Calls Try.prog 4 #[.slice a 0 c1, .slice a2 0 c2] w fun e w' => e = .returned (.bool true) ∧ Below w.heap.size w w' := by
  have HA : Hid (a = none → c1 = 0) := ha
  have HA2 : Hid (a2 = none → c2 = 0) := ha2
  clear ha ha2
  go_enter Try.func4, Try.ntmps4
  go_wp2_with fail
  refine (bytes_none a c1 a2 0 c2 _ (by omega)).mono ?_
  rintro e w ⟨⟨r, rfl⟩, rfl⟩
  cases r with
  | false =>
    go_wp2
    go_ret
    exact ⟨rfl, Below.refl _ _⟩
  | true =>
    go_wp2_with fail
    refine (count_none a c1 a2 0 c2 _ (by omega)).mono ?_
    rintro e w ⟨⟨t, rfl, ht⟩, rfl⟩
    by_cases hbig : 1048576 < t
    · go_wp2
      go_ret
      exact ⟨rfl, Below.refl _ _⟩
    · have hbg : decide ((1048576 : Int) < t) = false := by simp; omega
      clear ht
      go_wp2_with fail
      refine (clone_none9 a c1 _ HA.out).mono ?_
      rintro e w1 ⟨⟨s1, d1, rfl⟩, bel1⟩
      have B1 : Hid (Below w.heap.size w w1) := bel1
      clear bel1
      go_wp2_with fail
      refine (clone_none10 a2 c2 _ HA2.out).mono ?_
      rintro e w2 ⟨⟨s2, d2, rfl⟩, bel2⟩
      have B2 : Hid (Below w.heap.size w w2) := B1.out.trans (bel2.mono B1.out.size)
      clear bel2
      go_wp2_with fail
      refine (build_none s1 s2 d1 d2 _).mono ?_
      rintro e w3 ⟨rfl, bel3⟩
      have B3 : Hid (Below w.heap.size w w3) := B2.out.trans (bel3.mono B2.out.size)
      clear bel3
      generalize w2.heap.size = s3
      go_wp2_with fail
      refine (qwd12_none _ 0 _).mono ?_
      rintro e w4 ⟨s4, rfl, hge, ⟨nm4, wt4, row4, good4⟩, bel4⟩
      have R4 : Hid (w4.rowIs s4 32 (1 * 2) (qv nm4 wt4)) := row4
      have G4 : Hid (∀ i, i < 1 → (nm4 i).size ≠ 0 ∧ wt4 i ≠ 0) := good4
      have B4 : Hid (Below w3.heap.size w3 w4) := bel4
      clear row4 good4 bel4
      go_wp2
      go_loop [37] (fun i => ∃ k : Nat, k ≤ 1 ∧ i = .int .i64 k) (fun i => 1 - (intOf i).toNat)
      case atStart => exact ⟨0, Nat.zero_le _, rfl⟩
      case round =>
        obtain ⟨k, hk, rfl⟩ := hrel
        by_cases hlt : k < 1
        · have d0 := R4.out.cell (i := k * 2) (by omega)
          have d1 := R4.out.cell (i := k * 2 + 1) (by omega)
          rw [qv_name] at d0
          rw [qv_weight] at d1
          have e1 := notEmpty_of _ (G4.out k hlt).1
          have e2 : (wt4 k == 0) = false := by rw [beq_eq_false_iff_ne]; exact (G4.out k hlt).2
          go_wp2
          go_round
          case rel => exact ⟨k + 1, by omega, by go_num⟩
          case measure => simp [intOf]; omega
        · go_wp2
          go_loopw [57] (fun i wr => ∃ k : Nat, k ≤ 1 ∧ i = .int .i64 k ∧ ∃ nm5 wt5, wr.rowIs s4 32 (1 * 2) (qv nm5 wt5) ∧ Below w3.heap.size w3 wr) (fun i _ => 1 - (intOf i).toNat)
          case atStart => exact ⟨0, Nat.zero_le _, rfl, nm4, wt4, R4.out, B4.out⟩
          case round =>
            obtain ⟨k5, hk5, rfl, nm5, wt5, row5, bel5⟩ := hrel
            by_cases hlt5 : k5 < 1
            · have R5 : Hid (wr.rowIs s4 32 (1 * 2) (qv nm5 wt5)) := row5
              have B5 : Hid (Below w3.heap.size w3 wr) := bel5
              have d0 := row5.cell (i := k5 * 2) (by omega)
              have d1 := row5.cell (i := k5 * 2 + 1) (by omega)
              have f0 := row5.frozen (k5 * 2)
              have f1 := row5.frozen (k5 * 2 + 1)
              rw [qv_name] at d0
              rw [qv_weight] at d1
              clear row5 bel5
              go_wp2
              go_roundw
              case rel => exact ⟨k5 + 1, by omega, by go_num, _, _, rowIs_weight (rowIs_name R5.out k5 _) k5 7, (B5.out.setCell hge _).setCell hge _⟩
              case measure => simp [intOf]; omega
            · have B5 : Hid (Below w3.heap.size w3 wr) := bel5
              clear row5 bel5
              go_wp2
              refine wp_loop_rounds 1 ?_
              rw [rounds_succ]
              go_wp2
              go_ret
              exact ⟨rfl, B3.out.trans (B5.out.mono B3.out.size)⟩

end Go.Proofs.Qxb6600790a.Fresh

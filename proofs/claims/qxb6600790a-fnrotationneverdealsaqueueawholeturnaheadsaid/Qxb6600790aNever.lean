/-
  Qxb6600790aNever: the walk of 'FnRotationNeverDealsAQueueAWholeTurnAhead'.
-/
import Derived.Test.Qxb6600790aTurns
namespace Go.Proofs.Qxb6600790a.Never
open Go.ChangeShapes Go.WideShapes Go.ChangeAt Go.RowKit Go.Proofs.Qxb6600790a.Base Go.Proofs.Qxb6600790a.Queues Go.Proofs.Qxb6600790a.Rot Go.Proofs.Qxb6600790a.Turns

def IsBool (e : Ending) : Prop := ∃ r, e = .returned (.bool r)

theorem bytes_any (a : Option Addr) (n cap : Nat) (s : Int) (w : World) (hn : n ≤ 9223372036854775807) :
    Calls Try.prog 19 #[.slice a n cap, .int .i64 s] w fun e w' => IsBool e ∧ w' = w := by
  go_enter Try.func19, Try.ntmps19
  go_wp2
  all_goals go_ret
  all_goals exact ⟨⟨_, rfl⟩, rfl⟩

/-- Where the law's own bounds say no. -/
theorem walk_out (a : Option Addr) (n cap : Nat) (s : Int) (w : World) (hn : n ≤ 9223372036854775807) (h : 4096 < n ∨ n = 0 ∨ s < 0 ∨ 65536 < s) :
    Calls Try.prog 6 #[.slice a n cap, .int .i64 s] w fun e w' => e = .returned (.bool true) ∧ Below w.heap.size w w' := by
  have H : Hid (4096 < n ∨ n = 0 ∨ s < 0 ∨ 65536 < s) := h
  clear h
  go_enter Try.func6, Try.ntmps6
  go_wp2_with fail
  refine (bytes_any a n cap s _ hn).mono ?_
  rintro e w ⟨⟨r, rfl⟩, rfl⟩
  cases r with
  | false =>
    go_wp2
    go_ret
    exact ⟨rfl, Below.refl _ _⟩
  | true =>
    by_cases h1 : 4096 < n
    · go_wp2
      go_ret
      exact ⟨rfl, Below.refl _ _⟩
    have b1 : decide ((4096 : Int) < n) = false := by simp; omega
    by_cases h2 : n = 0
    · have b2 : ((n : Int) == 0) = true := by rw [beq_iff_eq]; omega
      clear h2
      go_wp2
      go_ret
      exact ⟨rfl, Below.refl _ _⟩
    have b2 : ((n : Int) == 0) = false := by rw [beq_eq_false_iff_ne]; omega
    by_cases h3 : s < 0
    · go_wp2
      go_ret
      exact ⟨rfl, Below.refl _ _⟩
    have b3 : decide (s < 0) = false := by simp; omega
    have h4 : 65536 < s := by have := H.out; omega
    go_wp2
    go_ret
    exact ⟨rfl, Below.refl _ _⟩

theorem cnt_upd (n : Nat) (z : Nat → Int) (R : Int) (τ J : Nat) (C : Int) (hJ : J = Plain.who n z R τ) (hC : C = (Plain.cnt n z R τ J : Int)) (i : Nat) : upd (fun i => (Plain.cnt n z R τ i : Int)) J (C + 1) i = (Plain.cnt n z R (τ + 1) i : Int) := by
  show _ = ((Plain.cnt n z R τ i + (if i = Plain.who n z R τ then 1 else 0) : Nat) : Int)
  rw [← hJ, hC]
  unfold upd
  by_cases e : i = J
  · rw [if_pos e, if_pos e, e]; omega
  · rw [if_neg e, if_neg e]; simp

/-- The test of the law says no. -/
theorem test_no (n : Nat) (z : Nat → Int) (R : Nat) (hn : 0 < n) (hz : ∀ i, i < n → 1 ≤ z i ∧ z i ≤ 1048576) (hR : Plain.sum z n = R) (hp : 0 < R) (hR2 : R ≤ 1048576) (τ i : Nat) (hτ : τ < 65536) (hi : i < n) (C Z : Int) (hC : C = (Plain.cnt n z R (τ + 1) i : Int)) (hZ : Z = z i) :
    (R : Int) * C < ((τ : Int) + 1) * Z + R ∧ 0 ≤ (R : Int) * C ∧ (R : Int) * C ≤ 1099511627776 ∧ 0 ≤ ((τ : Int) + 1) * Z ∧ ((τ : Int) + 1) * Z ≤ 1099511627776 := by
  subst hC hZ
  have h1 := Plain.ahead n z R hn (fun j hj => (hz j hj).1) hR (by omega) (τ + 1) i hi
  have hc := Plain.cnt_le n z R (τ + 1) i
  have h2 : 0 ≤ (R : Int) * (Plain.cnt n z R (τ + 1) i : Int) := Int.mul_nonneg (by omega) (by omega)
  have h3 : (R : Int) * (Plain.cnt n z R (τ + 1) i : Int) ≤ 1048576 * 65536 := Int.mul_le_mul (by omega) (by omega) (by omega) (by omega)
  have hzi := hz i hi
  have h4 : 0 ≤ ((τ : Int) + 1) * z i := Int.mul_nonneg (by omega) (by omega)
  have h5 : ((τ : Int) + 1) * z i ≤ 65536 * 1048576 := Int.mul_le_mul (by omega) hzi.2 (by omega) (by omega)
  have e1 : ((τ + 1 : Nat) : Int) = (τ : Int) + 1 := by omega
  rw [e1] at h1
  exact ⟨h1, h2, by omega, h4, by omega⟩

set_option maxHeartbeats 4000000 in
theorem walk_in (b off n cap : Nat) (s : Nat) (z : Nat → Int) (w : World) (h0 : 1 ≤ n) (hn : n ≤ 4096) (hs : s ≤ 65536) (hr : Row w b off n (fun i => .int .i64 (z i))) :
    Calls Try.prog 6 #[.slice (some ⟨b, off, none⟩) n cap, .int .i64 (s : Int)] w fun e w' => e = .returned (.bool true) ∧ Below w.heap.size w w' := by
  have H1 : Hid (Row w b off n (fun i => .int .i64 (z i))) := hr
  have b1 : decide ((4096 : Int) < n) = false := by simp; omega
  have b2 : ((n : Int) == 0) = false := by rw [beq_eq_false_iff_ne]; omega
  have b3 : decide ((s : Int) < 0) = false := by simp
  have b4 : decide ((65536 : Int) < s) = false := by simp; omega
  have hmk := run_make_row' 40 2 (.int .i64 0) 8 Try.underlying40 info2 rfl .i64 .i64 n (by omega) (by omega)
  clear hr
  go_enter Try.func6, Try.ntmps6
  go_wp2_with fail
  refine (bytes_any _ n cap s _ (by omega)).mono ?_
  rintro e w ⟨⟨r, rfl⟩, rfl⟩
  cases r with
  | false =>
    go_wp2
    go_ret
    exact ⟨rfl, Below.refl _ _⟩
  | true =>
    go_wp2_with fail
    refine (round_nat b off n cap z 1048576 _ hn (by omega) (by omega) H1.out).mono ?_
    rintro e w ⟨hR, rfl⟩
    rcases hR with rfl | ⟨R, rfl, hsum, hz⟩
    · go_wp2
      go_ret
      exact ⟨rfl, Below.refl _ _⟩
    · have HS : Hid (Plain.sum z n = R) := hsum
      have HZ : Hid (∀ i, i < n → 1 ≤ z i ∧ z i ≤ 1048576) := hz
      clear hsum hz
      by_cases g1 : R < 1
      · have c1 : decide ((R : Int) < 1) = true := by simp; omega
        go_wp2
        go_ret
        exact ⟨rfl, Below.refl _ _⟩
      have c1 : decide ((R : Int) < 1) = false := by simp; omega
      by_cases g2 : 1048576 < R
      · have c2 : decide ((1048576 : Int) < R) = true := by simp; omega
        go_wp2
        go_ret
        exact ⟨rfl, Below.refl _ _⟩
      have c2 : decide ((1048576 : Int) < R) = false := by simp; omega
      go_wp2_with fail
      refine (clone10 b off n cap z _ (by omega) H1.out).mono ?_
      rintro e w1 ⟨bw, rfl, r1, l1, bel1⟩
      have R1 : Hid (w1.rowIs bw 3 n (fun i => .int .i64 (z i))) := r1
      have B1 : Hid (Below w.heap.size w w1) := bel1
      clear r1 bel1
      go_wp2_with fail
      refine (uniform17 bw 0 n n z _ hn (ofRowIs R1.out)).mono ?_
      rintro e w2 ⟨bq, rfl, r2, l2, bel2⟩
      have R2 : Hid (w2.rowIs bq 32 (n * 2) (qv (fun _ => qname) z)) := r2
      have R1' : Hid (w2.rowIs bw 3 n (fun i => .int .i64 (z i))) := R1.out.of_block (bel2.block bw R1.out.lt)
      have B2 : Hid (Below w.heap.size w w2) := B1.out.trans (bel2.mono B1.out.size)
      have m1 : bw < w2.heap.size := R1'.out.lt
      have m0 : bw < w1.heap.size := R1.out.lt
      clear r2 bel2 R1 B1
      go_wp2_with fail
      refine (ZZnew_any bq n (fun _ => qname) z _ h0 hn HZ.out R2.out).mono ?_
      rintro e w3 ⟨br, bo, rfl, r3, l3, l4, bel3⟩
      have R3 : Hid (Rota w3 br bq bo n (fun _ => qname) z (fun _ => 0) (Plain.sum z n)) := r3
      have R1 : Hid (w3.rowIs bw 3 n (fun i => .int .i64 (z i))) := R1'.out.of_block (bel3.block bw R1'.out.lt)
      have B3 : Hid (Below w.heap.size w w3) := B2.out.trans (bel3.mono B2.out.size)
      have m2 : br < w3.heap.size := r3.box.lt
      have m3 : bo < w3.heap.size := r3.owed.lt
      have m4 : bq < w3.heap.size := r3.qs.lt
      have m5 : w.heap.size ≤ w2.heap.size := B2.out.size
      have m6 : w.heap.size ≤ w3.heap.size := B3.out.size
      have m7 : w2.heap.size ≤ w3.heap.size := bel3.size
      clear r3 bel3 R1'
      have ap : Hid (Apart w br bq bo bw w3.heap.size) := ⟨by omega, by omega, by omega, by omega, by omega, by omega, by omega⟩
      have H0 : Hid (S w br bq bo bw w3.heap.size n z R 2 n 0 (fun _ => 0) _) := S.start 2 n (by rw [← HS.out]; exact R3.out) R1.out B3.out
      clear R1 R2 R3 B2 B3 m0 m1 m2 m3 m4 m5 m6 m7 l1 l2 l3 l4
      go_wp2
      generalize w3.alloc (.cells (madeCells #[.int .i64 0] n) 2) = w4 at H0 ⊢
      generalize w3.heap.size = bt at ap H0 ⊢
      go_loopw [8] (fun t wr => ∃ τ : Nat, τ ≤ s ∧ t = .int .i64 ((τ : Int) + 1) ∧ S w br bq bo bw bt n z R 2 n τ (fun i => (Plain.cnt n z R τ i : Int)) wr) (fun t _ => s + 1 - (intOf t).toNat)
      case atStart => exact ⟨0, Nat.zero_le _, rfl, H0.out.congr (fun i _ => rfl)⟩
      case round =>
        obtain ⟨τ, hτ, rfl, hS⟩ := hrel
        have HSt : Hid (S w br bq bo bw bt n z R 2 n τ (fun i => (Plain.cnt n z R τ i : Int)) wr) := hS
        clear hS
        by_cases hlt : τ < s
        · go_wp2_with fail
          refine (next_S (τ := τ) _ h0 hn HZ.out HS.out (by omega) (by omega) (by omega) ap.out HSt.out).mono ?_
          rintro e w5 ⟨J, rfl, hJ, hJn, s5⟩
          have HJ : Hid (J = Plain.who n z R τ) := hJ
          have HS5 : Hid (S w br bq bo bw bt n z R 2 n (τ + 1) (fun i => (Plain.cnt n z R τ i : Int)) w5) := s5
          clear hJ s5
          obtain ⟨C, hC⟩ : ∃ C : Int, C = (Plain.cnt n z R τ J : Int) := ⟨_, rfl⟩
          have hC0 : 0 ≤ C := by omega
          have hC1 : C ≤ 65536 := by have := Plain.cnt_le n z R τ J; omega
          have d1 : w5.cell? ⟨bt, J, none⟩ = some (.int .i64 C) := by rw [hC]; exact HS5.out.tab.cell hJn
          have f1 := HS5.out.tab.frozen J
          have HC : Hid (C = (Plain.cnt n z R τ J : Int)) := hC
          have HS6 : Hid (S w br bq bo bw bt n z R 2 n (τ + 1) (fun i => (Plain.cnt n z R (τ + 1) i : Int)) (w5.setCell ⟨bt, J, none⟩ (.int .i64 (C + 1)))) := (HS5.out.set ap.out J (C + 1)).congr (fun i _ => cnt_upd n z R τ J C HJ.out HC.out i)
          clear hC
          have hdJ : decide ((J : Int) < 0) = false := by simp
          have hdn : decide ((n : Int) ≤ J) = false := by simp; omega
          go_wp2
          generalize w5.setCell ⟨bt, J, none⟩ (.int .i64 (C + 1)) = w6 at HS6 ⊢
          clear d1 f1
          go_loopw [66] (fun t wr => ∃ k : Nat, k ≤ n ∧ t = .int .i64 k ∧ S w br bq bo bw bt n z R 2 n (τ + 1) (fun i => (Plain.cnt n z R (τ + 1) i : Int)) wr) (fun t _ => n - (intOf t).toNat)
          case atStart => exact ⟨0, Nat.zero_le _, rfl, HS6.out⟩
          case round =>
            obtain ⟨k, hk, rfl, hS7⟩ := hrel
            by_cases hlt7 : k < n
            · obtain ⟨C7, hC7⟩ : ∃ C : Int, C = (Plain.cnt n z R (τ + 1) k : Int) := ⟨_, rfl⟩
              obtain ⟨Z7, hZ7⟩ : ∃ Z : Int, Z = z k := ⟨_, rfl⟩
              obtain ⟨t1, t2, t3, t4, t5⟩ := test_no n z R h0 HZ.out HS.out (by omega) (by omega) τ k (by omega) hlt7 C7 Z7 hC7 hZ7
              have e1 : wr.cell? ⟨bt, k, none⟩ = some (.int .i64 C7) := by rw [hC7]; exact hS7.tab.cell hlt7
              have e2 : wr.cell? ⟨bw, k, none⟩ = some (.int .i64 Z7) := by rw [hZ7]; exact hS7.wts.cell hlt7
              have HS7 : Hid (S w br bq bo bw bt n z R 2 n (τ + 1) (fun i => (Plain.cnt n z R (τ + 1) i : Int)) wr) := hS7
              have td : decide (((τ : Int) + 1) * Z7 + R ≤ (R : Int) * C7) = false := by simp; omega
              clear hS7 hC7 hZ7
              go_wp2_with fail
              go_quiet (fail)
              go_wp2
              go_roundw
              case rel => exact ⟨k + 1, by omega, by go_num, HS7.out.drewN _⟩
              case measure => simp [intOf]; omega
            · have HS7 : Hid (S w br bq bo bw bt n z R 2 n (τ + 1) (fun i => (Plain.cnt n z R (τ + 1) i : Int)) wr) := hS7
              clear hS7
              go_wp2
              go_roundw
              case rel => exact ⟨τ + 1, by omega, by go_num, HS7.out⟩
              case measure => simp [intOf]; omega
        · go_wp2
          go_ret
          exact ⟨rfl, HSt.out.below⟩

end Go.Proofs.Qxb6600790a.Never

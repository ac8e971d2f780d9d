/-
  Qxb6600790aDeals: the walk of 'FnRotationRoundDealsEachItsWeightAndRepeats'.
-/
import Derived.Test.Qxb6600790aTurns
namespace Go.Proofs.Qxb6600790a.Deals
open Go.ChangeShapes Go.WideShapes Go.ChangeAt Go.RowKit Go.Proofs.Qxb6600790a.Base Go.Proofs.Qxb6600790a.Queues Go.Proofs.Qxb6600790a.Rot Go.Proofs.Qxb6600790a.Turns

def IsBool (e : Ending) : Prop := ∃ r, e = .returned (.bool r)

theorem bytes_any (a : Option Addr) (n cap : Nat) (w : World) (hn : n ≤ 9223372036854775807) :
    Calls Try.prog 14 #[.slice a n cap] w fun e w' => IsBool e ∧ w' = w := by
  go_enter Try.func14, Try.ntmps14
  go_wp2
  all_goals go_ret
  all_goals exact ⟨⟨_, rfl⟩, rfl⟩

/-- Where the law's own bounds say no. -/
theorem walk_out (a : Option Addr) (n cap : Nat) (w : World) (hn : n ≤ 9223372036854775807) (h : 4096 < n ∨ n = 0) :
    Calls Try.prog 5 #[.slice a n cap] w fun e w' => e = .returned (.bool true) ∧ Below w.heap.size w w' := by
  have H : Hid (4096 < n ∨ n = 0) := h
  clear h
  go_enter Try.func5, Try.ntmps5
  go_wp2_with fail
  refine (bytes_any a n cap _ hn).mono ?_
  rintro e w ⟨⟨r, rfl⟩, rfl⟩
  cases r with
  | false =>
    go_wp2
    go_ret
    exact ⟨rfl, Below.refl _ _⟩
  | true =>
    by_cases h1 : 4096 < n
    · go_wp2
      go_ret
      exact ⟨rfl, Below.refl _ _⟩
    have b1 : decide ((4096 : Int) < n) = false := by simp; omega
    have b2 : ((n : Int) == 0) = true := by rw [beq_iff_eq]; have := H.out; omega
    go_wp2
    go_ret
    exact ⟨rfl, Below.refl _ _⟩

/-- The sequence dealt so far. -/
def sq (n : Nat) (z : Nat → Int) (R : Int) (k i : Nat) : Int := if i < k then (Plain.who n z R i : Int) else 0

theorem sq_step (n : Nat) (z : Nat → Int) (R : Int) (k J : Nat) (hJ : J = Plain.who n z R k) (i : Nat) : upd (sq n z R k) k (J : Int) i = sq n z R (k + 1) i := by
  unfold upd sq
  by_cases e : i = k
  · rw [if_pos e, if_pos (by omega), e, hJ]
  · rw [if_neg e]
    by_cases e2 : i < k
    · rw [if_pos e2, if_pos (by omega)]
    · rw [if_neg e2, if_neg (by omega)]

/-- Memory behind the dealing: the weights, the sequence. -/
structure Dealt (w : World) (bw bt n : Nat) (z : Nat → Int) (R : Nat) (wr : World) : Prop where
  wts : wr.rowIs bw 3 n (fun i => .int .i64 (z i))
  seq : wr.rowIs bt 3 (2 * R) (fun i => .int .i64 (Plain.who n z R i : Int))
  below : Below w.heap.size w wr

theorem Dealt.drewN {w wr : World} {bw bt n : Nat} {z : Nat → Int} {R : Nat} (h : Dealt w bw bt n z R wr) (q : Nat) : Dealt w bw bt n z R (wr.drewN q) := ⟨h.wts, h.seq, below_drewN h.below q⟩

theorem dealt_of {w wr : World} {br bq bo bw bt n : Nat} {z : Nat → Int} {R : Nat} {τ : Nat} (h : S w br bq bo bw bt n z R 3 (2 * R) τ (sq n z R (2 * R)) wr) : Dealt w bw bt n z R wr :=
  ⟨h.wts, h.tab.congr (fun i hi => by unfold sq; rw [if_pos hi]), h.below⟩

theorem best_yes {v : Nat → Int} {k T : Nat} (hT : T = Plain.best v k) (h : v T < v k) : k = Plain.best v (k + 1) := by
  show k = if v (Plain.best v k) < v k then k else Plain.best v k
  rw [← hT, if_pos h]
theorem best_no {v : Nat → Int} {k T : Nat} (hT : T = Plain.best v k) (h : ¬ v T < v k) : T = Plain.best v (k + 1) := by
  show T = if v (Plain.best v k) < v k then k else Plain.best v k
  rw [← hT, if_neg h]

theorem best_one (v : Nat → Int) : 0 = Plain.best v 1 := by
  show 0 = if v 0 < v 0 then 0 else 0
  split <;> rfl

/-- .. and the table of counts, behind k places. -/
structure Counted (w : World) (bw bt bc n : Nat) (z : Nat → Int) (R : Nat) (k : Nat) (wr : World) : Prop where
  dealt : Dealt w bw bt n z R wr
  tab : wr.rowIs bc 3 n (fun i => .int .i64 (Plain.cnt n z R k i : Int))
  new : w.heap.size ≤ bc
  nw : bw ≠ bc
  nt : bt ≠ bc

theorem counted_start {w wr : World} {bw bt n : Nat} {z : Nat → Int} {R : Nat} (h : Dealt w bw bt n z R wr) : Counted w bw bt wr.heap.size n z R 0 (wr.alloc (.cells (madeCells #[.int .i64 0] n) 3)) :=
  ⟨⟨h.wts.alloc _, h.seq.alloc _, h.below.alloc h.below.size _⟩, (World.rowIs_made wr _ n 3).congr (fun _ _ => rfl), h.below.size, Nat.ne_of_lt h.wts.lt, Nat.ne_of_lt h.seq.lt⟩

theorem Counted.drewN {w wr : World} {bw bt bc n : Nat} {z : Nat → Int} {R k : Nat} (h : Counted w bw bt bc n z R k wr) (q : Nat) : Counted w bw bt bc n z R k (wr.drewN q) := ⟨h.dealt.drewN q, h.tab, h.new, h.nw, h.nt⟩

theorem Counted.step {w wr : World} {bw bt bc n : Nat} {z : Nat → Int} {R k J : Nat} {C : Int} (h : Counted w bw bt bc n z R k wr) (hJ : J = Plain.who n z R k) (hC : C = (Plain.cnt n z R k J : Int)) :
    Counted w bw bt bc n z R (k + 1) (wr.setCell ⟨bc, J, none⟩ (.int .i64 (C + 1))) :=
  ⟨⟨h.dealt.wts.setOther (a := ⟨bc, J, none⟩) h.nw _, h.dealt.seq.setOther (a := ⟨bc, J, none⟩) h.nt _, h.dealt.below.setCell h.new _⟩, (h.tab.set J _).congr (fun i _ => by
    have e0 : (Plain.cnt n z R (k + 1) i : Int) = ((Plain.cnt n z R k i + (if i = Plain.who n z R k then 1 else 0) : Nat) : Int) := rfl
    rw [e0, ← hJ]
    by_cases e : i = J
    · rw [if_pos e, if_pos e, hC, e]; rfl
    · rw [if_neg e, if_neg e]; rfl), h.new, h.nw, h.nt⟩

set_option maxHeartbeats 4000000 in
theorem walk_in (b off n cap : Nat) (z : Nat → Int) (w : World) (h0 : 1 ≤ n) (hn : n ≤ 4096) (hr : Row w b off n (fun i => .int .i64 (z i))) :
    Calls Try.prog 5 #[.slice (some ⟨b, off, none⟩) n cap] w fun e w' => e = .returned (.bool true) ∧ Below w.heap.size w w' := by
  have H1 : Hid (Row w b off n (fun i => .int .i64 (z i))) := hr
  have b1 : decide ((4096 : Int) < n) = false := by simp; omega
  have b2 : ((n : Int) == 0) = false := by rw [beq_eq_false_iff_ne]; omega
  have hmk := run_make_row' 23 3 (.int .i64 0) 8 Try.underlying23 info3 rfl .i64 .i64 n (by omega) (by omega)
  clear hr
  go_enter Try.func5, Try.ntmps5
  go_wp2_with fail
  refine (bytes_any _ n cap _ (by omega)).mono ?_
  rintro e w ⟨⟨r, rfl⟩, rfl⟩
  cases r with
  | false =>
    go_wp2
    go_ret
    exact ⟨rfl, Below.refl _ _⟩
  | true =>
    go_wp2_with fail
    refine (round_nat b off n cap z 65536 _ hn (by omega) (by omega) H1.out).mono ?_
    rintro e w ⟨hR, rfl⟩
    rcases hR with rfl | ⟨R, rfl, hsum, hz⟩
    · go_wp2
      go_ret
      exact ⟨rfl, Below.refl _ _⟩
    · have HS : Hid (Plain.sum z n = R) := hsum
      have HZ : Hid (∀ i, i < n → 1 ≤ z i ∧ z i ≤ 1048576) := fun i hi => ⟨(hz i hi).1, by have := (hz i hi).2; omega⟩
      clear hsum hz
      by_cases g1 : R < 1
      · have c1 : decide ((R : Int) < 1) = true := by simp; omega
        go_wp2
        go_ret
        exact ⟨rfl, Below.refl _ _⟩
      have c1 : decide ((R : Int) < 1) = false := by simp; omega
      by_cases g2 : 65536 < R
      · have c2 : decide ((65536 : Int) < R) = true := by simp; omega
        go_wp2
        go_ret
        exact ⟨rfl, Below.refl _ _⟩
      have c2 : decide ((65536 : Int) < R) = false := by simp; omega
      go_wp2_with fail
      refine (clone10 b off n cap z _ (by omega) H1.out).mono ?_
      rintro e w1 ⟨bw, rfl, r1, l1, bel1⟩
      have R1 : Hid (w1.rowIs bw 3 n (fun i => .int .i64 (z i))) := r1
      have B1 : Hid (Below w.heap.size w w1) := bel1
      clear r1 bel1
      go_wp2_with fail
      refine (uniform17 bw 0 n n z _ hn (ofRowIs R1.out)).mono ?_
      rintro e w2 ⟨bq, rfl, r2, l2, bel2⟩
      have R2 : Hid (w2.rowIs bq 32 (n * 2) (qv (fun _ => qname) z)) := r2
      have R1' : Hid (w2.rowIs bw 3 n (fun i => .int .i64 (z i))) := R1.out.of_block (bel2.block bw R1.out.lt)
      have B2 : Hid (Below w.heap.size w w2) := B1.out.trans (bel2.mono B1.out.size)
      have m1 : bw < w2.heap.size := R1'.out.lt
      have m0 : bw < w1.heap.size := R1.out.lt
      clear r2 bel2 R1 B1
      go_wp2_with fail
      refine (ZZnew_any bq n (fun _ => qname) z _ h0 hn HZ.out R2.out).mono ?_
      rintro e w3 ⟨br, bo, rfl, r3, l3, l4, bel3⟩
      have R3 : Hid (Rota w3 br bq bo n (fun _ => qname) z (fun _ => 0) (Plain.sum z n)) := r3
      have R1 : Hid (w3.rowIs bw 3 n (fun i => .int .i64 (z i))) := R1'.out.of_block (bel3.block bw R1'.out.lt)
      have B3 : Hid (Below w.heap.size w w3) := B2.out.trans (bel3.mono B2.out.size)
      have m2 : br < w3.heap.size := r3.box.lt
      have m3 : bo < w3.heap.size := r3.owed.lt
      have m4 : bq < w3.heap.size := r3.qs.lt
      have m5 : w.heap.size ≤ w2.heap.size := B2.out.size
      have m6 : w.heap.size ≤ w3.heap.size := B3.out.size
      have m7 : w2.heap.size ≤ w3.heap.size := bel3.size
      clear r3 bel3 R1'
      have ap : Hid (Apart w br bq bo bw w3.heap.size) := ⟨by omega, by omega, by omega, by omega, by omega, by omega, by omega⟩
      have hmk2 : ∀ w : World, (Instr.makeSlice 23 (.int .i64 (2 * (R : Int))) (.int .i64 (2 * (R : Int)))).run Try.prog w = .ok (.slice (some ⟨w.heap.size, 0, none⟩) (2 * R) (2 * R)) (w.alloc (.cells (madeCells #[.int .i64 0] (2 * R)) 3)) := by
        have h := run_make_row' (P := Try.prog) 23 3 (.int .i64 0) 8 Try.underlying23 info3 rfl .i64 .i64 (2 * R) (by omega) (by omega)
        rw [show ((2 * R : Nat) : Int) = 2 * (R : Int) from by omega] at h
        exact h
      have H0 : Hid (S w br bq bo bw w3.heap.size n z R 3 (2 * R) 0 (fun _ => 0) _) := S.start 3 (2 * R) (by rw [← HS.out]; exact R3.out) R1.out B3.out
      clear R1 R2 R3 B2 B3 m0 m1 m2 m3 m4 m5 m6 m7 l1 l2 l3 l4
      go_wp2
      generalize w3.alloc (.cells (madeCells #[.int .i64 0] (2 * R)) 3) = w4 at H0 ⊢
      generalize w3.heap.size = bt at ap H0 ⊢
      go_loopw [42] (fun t wr => ∃ k : Nat, k ≤ 2 * R ∧ t = .int .i64 k ∧ S w br bq bo bw bt n z R 3 (2 * R) k (sq n z R k) wr) (fun t _ => 2 * R - (intOf t).toNat)
      case atStart => exact ⟨0, Nat.zero_le _, rfl, H0.out.congr (fun i _ => by simp [sq])⟩
      case round =>
        obtain ⟨k, hk, rfl, hS⟩ := hrel
        have HSt : Hid (S w br bq bo bw bt n z R 3 (2 * R) k (sq n z R k) wr) := hS
        clear hS
        by_cases hlt : k < 2 * R
        · go_wp2_with fail
          refine (next_S (τ := k) _ h0 hn HZ.out HS.out (by omega) (by omega) (by omega) ap.out HSt.out).mono ?_
          rintro e w5 ⟨J, rfl, hJ, hJn, s5⟩
          have HJ : Hid (J = Plain.who n z R k) := hJ
          have d1 := s5.tab.cell hlt
          have f1 := s5.tab.frozen k
          have HS6 : Hid (S w br bq bo bw bt n z R 3 (2 * R) (k + 1) (sq n z R (k + 1)) (w5.setCell ⟨bt, k, none⟩ (.int .i64 (J : Int)))) := (s5.set ap.out k (J : Int)).congr (fun i _ => sq_step n z R k J hJ i)
          clear hJ s5
          go_wp2
          go_roundw
          case rel => exact ⟨k + 1, by omega, by go_num, HS6.out⟩
          case measure => simp [intOf]; omega
        · have HD : Hid (Dealt w bw bt n z R wr) := by
            have hke : k = 2 * R := by omega
            have h := HSt.out
            rw [hke] at h
            exact dealt_of h
          clear HSt hk
          go_wp2
          go_loopw [8, 9] (fun h i wr => ∃ k H : Nat, 1 ≤ k ∧ k ≤ n ∧ i = .int .i64 k ∧ h = .int .i64 H ∧ H < n ∧ H = Plain.best z k ∧ Dealt w bw bt n z R wr) (fun _ i _ => n - (intOf i).toNat)
          case atStart => exact ⟨1, 0, Nat.le_refl _, h0, rfl, rfl, by omega, best_one z, HD.out⟩
          case round =>
            obtain ⟨k, H, hk1, hk2, rfl, rfl, hHn, hH, hD⟩ := hrel
            have HH : Hid (H = Plain.best z k) := hH
            have HD2 : Hid (Dealt w bw bt n z R wr) := hD
            clear hH
            by_cases hlt2 : k < n
            · have d1 := hD.wts.cell hlt2
              have d2 := hD.wts.cell hHn
              clear hD
              by_cases hc : z H < z k
              · go_wp2_with fail
                go_quiet (fail)
                go_wp2
                go_roundw
                case rel => exact ⟨k + 1, k, by omega, by omega, by go_num, rfl, hlt2, best_yes HH.out hc, HD2.out.drewN _⟩
                case measure => simp [intOf]; omega
              · have hcd : decide (z H < z k) = false := by simpa using hc
                go_wp2_with fail
                go_quiet (fail)
                go_wp2
                go_roundw
                case rel => exact ⟨k + 1, H, by omega, by omega, by go_num, rfl, hHn, best_no HH.out (by omega), HD2.out.drewN _⟩
                case measure => simp [intOf]; omega
            · have d1 : wr.cell? ⟨bt, 0, none⟩ = some (.int .i64 (H : Int)) := by
                have hkn : k = n := by omega
                have hH2 := HH.out
                rw [hkn] at hH2
                rw [hD.seq.cell (i := 0) (by omega), Plain.who_first, ← hH2]
              have HC0 : Hid (Counted w bw bt wr.heap.size n z R 0 _) := counted_start hD
              clear hD HD2 HD
              go_wp2
              generalize wr.alloc (.cells (madeCells #[.int .i64 0] n) 3) = w6 at HC0 ⊢
              generalize wr.heap.size = bc at HC0 ⊢
              clear d1
              go_loopw [11] (fun t wr => ∃ m : Nat, m ≤ R ∧ t = .int .i64 m ∧ Counted w bw bt bc n z R m wr) (fun t _ => R - (intOf t).toNat)
              case atStart => exact ⟨0, Nat.zero_le _, rfl, HC0.out⟩
              case round =>
                obtain ⟨m, hm, rfl, hC⟩ := hrel
                have HC : Hid (Counted w bw bt bc n z R m wr) := hC
                by_cases hlt3 : m < R
                · obtain ⟨J, hJ⟩ : ∃ J : Nat, J = Plain.who n z R m := ⟨_, rfl⟩
                  have hJn : J < n := by rw [hJ]; exact Plain.who_lt n z R h0 m
                  obtain ⟨C, hCe⟩ : ∃ C : Int, C = (Plain.cnt n z R m J : Int) := ⟨_, rfl⟩
                  have hC0 : 0 ≤ C := by omega
                  have hC1 : C ≤ 65536 := by have := Plain.cnt_le n z R m J; omega
                  have e1 : wr.cell? ⟨bt, m, none⟩ = some (.int .i64 (J : Int)) := by rw [hJ]; exact hC.dealt.seq.cell (by omega)
                  have e2 : wr.cell? ⟨bc, J, none⟩ = some (.int .i64 C) := by rw [hCe]; exact hC.tab.cell hJn
                  have f2 := hC.tab.frozen J
                  have hstep := hC.step hJ hCe
                  have HC2 : Hid (Counted w bw bt bc n z R (m + 1) (wr.setCell ⟨bc, J, none⟩ (.int .i64 (C + 1)))) := hstep
                  have e3 : (wr.setCell ⟨bc, J, none⟩ (.int .i64 (C + 1))).cell? ⟨bt, R + m, none⟩ = some (.int .i64 (J : Int)) := by
                    rw [hstep.dealt.seq.cell (i := R + m) (by omega), Plain.who_again n z R h0 (fun i hi => (HZ.out i hi).1) HS.out (by omega) m, ← hJ]
                  have e4 : wr.cell? ⟨bt, R + m, none⟩ = some (.int .i64 (J : Int)) := by
                    rw [hC.dealt.seq.cell (i := R + m) (by omega), Plain.who_again n z R h0 (fun i hi => (HZ.out i hi).1) HS.out (by omega) m, ← hJ]
                  have hne1 : bt ≠ bc := hC.nt
                  have hne2 : bc ≠ bt := Ne.symm hC.nt
                  have hdJ : decide ((J : Int) < 0) = false := by simp
                  have hdn : decide ((n : Int) ≤ J) = false := by simp; omega
                  clear hC hJ hCe hstep
                  go_wp2
                  go_roundw
                  case rel => exact ⟨m + 1, by omega, by go_num, HC2.out⟩
                  case measure => simp [intOf]; omega
                · have HC3 : Hid (Counted w bw bt bc n z R R wr) := by
                    have hme : m = R := by omega
                    rw [hme] at hC
                    exact hC
                  clear hC HC
                  go_wp2
                  go_loopw [108] (fun t wr => ∃ i : Nat, i ≤ n ∧ t = .int .i64 i ∧ Counted w bw bt bc n z R R wr) (fun t _ => n - (intOf t).toNat)
                  case atStart => exact ⟨0, Nat.zero_le _, rfl, HC3.out⟩
                  case round =>
                    obtain ⟨i, hi, rfl, hC⟩ := hrel
                    have HC : Hid (Counted w bw bt bc n z R R wr) := hC
                    by_cases hlt4 : i < n
                    · have e1 : wr.cell? ⟨bw, i, none⟩ = some (.int .i64 (z i)) := hC.dealt.wts.cell hlt4
                      have e2 : wr.cell? ⟨bc, i, none⟩ = some (.int .i64 (z i)) := by
                        rw [hC.tab.cell hlt4, Plain.round_cnt n z R h0 (fun j hj => (HZ.out j hj).1) HS.out (by omega) i hlt4]
                      clear hC
                      go_wp2_with fail
                      go_quiet (fail)
                      go_wp2
                      go_roundw
                      case rel => exact ⟨i + 1, by omega, by go_num, HC.out.drewN _⟩
                      case measure => simp [intOf]; omega
                    · clear hC
                      go_wp2
                      go_ret
                      exact ⟨rfl, HC.out.dealt.below⟩

end Go.Proofs.Qxb6600790a.Deals

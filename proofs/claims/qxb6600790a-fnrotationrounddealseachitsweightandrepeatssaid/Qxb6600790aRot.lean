/-
  Qxb6600790aRot: the contracts of 'zzWeightsRound', 'zzUniformQueues', 'newRotation' and 'next'.
-/
import Derived.Test.Qxb6600790aQueues
import Derived.Test.Qxb6600790aPlain
namespace Go.Proofs.Qxb6600790a.Rot
open Go.ChangeShapes Go.WideShapes Go.ChangeAt Go.RowKit Go.Proofs.Qxb6600790a.Base Go.Proofs.Qxb6600790a.Queues

/-- What 'zzWeightsRound' answers: -1, or the sum of weights that all fit. -/
def IsRound (n : Nat) (z : Nat → Int) (M : Int) (e : Ending) : Prop :=
  e = .returned (.int .i64 (-1)) ∨ (e = .returned (.int .i64 (Plain.sum z n)) ∧ ∀ i, i < n → 1 ≤ z i ∧ z i ≤ M)

theorem sum_bd (z : Nat → Int) (M : Int) (hM : 0 ≤ M) : ∀ n, (∀ i, i < n → 1 ≤ z i ∧ z i ≤ M) → 0 ≤ Plain.sum z n ∧ Plain.sum z n ≤ n * M
  | 0, _ => by simp [Plain.sum]
  | n + 1, h => by
    have ih := sum_bd z M hM n (fun i hi => h i (by omega))
    have := h n (by omega)
    unfold Plain.sum
    rw [Int.natCast_add, Int.add_mul]
    omega

theorem mul_bd (k : Nat) (M : Int) (hk : k ≤ 4096) (hM : M ≤ 1048576) : (k : Int) * M ≤ 4294967296 := by
  have h1 : (k : Int) * M ≤ (k : Int) * 1048576 := Int.mul_le_mul_of_nonneg_left hM (by omega)
  omega

set_option maxHeartbeats 1000000 in
theorem round_any (b off n cap : Nat) (z : Nat → Int) (M : Int) (w : World) (hn : n ≤ 4096) (hM0 : 0 ≤ M) (hM : M ≤ 1048576) (hr : Row w b off n (fun i => .int .i64 (z i))) :
    Calls Try.prog 15 #[.slice (some ⟨b, off, none⟩) n cap, .int .i64 M] w fun e w' => IsRound n z M e ∧ w' = w := by
  have H1 : Hid (Row w b off n (fun i => .int .i64 (z i))) := hr
  clear hr
  go_enter Try.func15, Try.ntmps15
  go_wp2
  go_loop [5, 10] (fun t i => ∃ k : Nat, k ≤ n ∧ i = .int .i64 k ∧ t = .int .i64 (Plain.sum z k) ∧ ∀ i, i < k → 1 ≤ z i ∧ z i ≤ M) (fun _ i => n - (intOf i).toNat)
  case atStart => exact ⟨0, Nat.zero_le _, rfl, rfl, fun i hi => absurd hi (by omega)⟩
  case round =>
    obtain ⟨k, hk, rfl, rfl, hall⟩ := hrel
    have HA : Hid (∀ i, i < k → 1 ≤ z i ∧ z i ≤ M) := hall
    obtain ⟨q1, q2⟩ := sum_bd z M hM0 k hall
    have q3 := mul_bd k M (by omega) hM
    have q4 : Plain.sum z k ≤ 4294967296 := by omega
    clear hall q2 q3
    by_cases hlt : k < n
    · have d0 := H1.out.2 k hlt
      by_cases c1 : z k < 1
      · go_wp2
        go_ret
        exact ⟨Or.inl rfl, rfl⟩
      · by_cases c2 : M < z k
        · go_wp2
          go_ret
          exact ⟨Or.inl rfl, rfl⟩
        · have c3 : z k ≤ 1048576 := by omega
          have c4 : 1 ≤ z k := by omega
          go_wp2
          go_round
          case rel => exact ⟨k + 1, by omega, by go_num, rfl, fun i hi => by
              rcases Nat.lt_or_ge i k with e | e
              · exact HA.out i e
              · have : i = k := by omega
                subst this; omega⟩
          case measure => simp [intOf]; omega
    · go_wp2
      go_ret
      obtain rfl : k = n := by omega
      exact ⟨Or.inr ⟨rfl, HA.out⟩, rfl⟩

theorem undrew {w wr : World} {n k : Nat} {nm : Nat → ByteArray} {wt : Nat → Int} (h : Built w n nm wt k wr.drew) : Built w n nm wt k wr :=
  ⟨h.row, ⟨h.below.os, h.below.tape, h.below.output, h.below.size, h.below.block⟩, h.size⟩

def qname : ByteArray := ⟨#[113]⟩

set_option maxHeartbeats 1000000 in
theorem uniform_any (b off n cap : Nat) (wt : Nat → Int) (w : World) (hn : n ≤ 4096) (h2 : Row w b off n (fun i => .int .i64 (wt i))) :
    Calls Try.prog 17 #[.slice (some ⟨b, off, none⟩) n cap] w fun e w' => e = .returned (.slice (some ⟨w.heap.size, 0, none⟩) n n) ∧ Built w n (fun _ => qname) wt n w' := by
  have hmk := make_qs n (by omega)
  have H2 : Hid (Row w b off n (fun i => .int .i64 (wt i))) := h2
  clear h2
  go_enter Try.func17, Try.ntmps17
  go_wp2
  go_loopw [10] (fun i wr => ∃ k : Nat, k ≤ n ∧ i = .int .i64 k ∧ Built w n (fun _ => qname) wt k wr) (fun i _ => n - (intOf i).toNat)
  case atStart => exact ⟨0, Nat.zero_le _, rfl, built_start w n (fun _ => qname) wt⟩
  case round =>
    obtain ⟨k, hk, rfl, hB⟩ := hrel
    have HB : Hid (Built w n (fun _ => qname) wt k wr) := hB
    by_cases hlt : k < n
    · have d2 : wr.cell? ⟨b, off + k, none⟩ = some (.int .i64 (wt k)) := (hB.below.cell (p := ⟨b, off + k, none⟩) H2.out.1).trans (H2.out.2 k hlt)
      have d3 := hB.row.cell (i := k * 2) (by omega)
      have d4 := hB.row.cell (i := k * 2 + 1) (by omega)
      have f3 := hB.row.frozen (k * 2)
      have f4 := hB.row.frozen (k * 2 + 1)
      clear hB
      go_wp2
      go_roundw
      case rel => exact ⟨k + 1, by omega, by go_num, undrew (built_step HB.out)⟩
      case measure => simp [intOf]; omega
    · go_wp2
      go_ret
      obtain rfl : k = n := by omega
      exact ⟨rfl, HB.out⟩

/-- The rotation in memory: its box br, the queues' row bq, what each is owed bo. -/
def boxv (bq bo n : Nat) (R : Int) (j : Nat) : Value :=
  if j = 0 then .slice (some ⟨bq, 0, none⟩) n n else if j = 1 then .slice (some ⟨bo, 0, none⟩) n n else .int .i64 R

structure Rota (w : World) (br bq bo n : Nat) (nm : Nat → ByteArray) (z o : Nat → Int) (R : Int) : Prop where
  qs : w.rowIs bq 32 (n * 2) (qv nm z)
  owed : w.rowIs bo 2 n (fun i => .int .i64 (o i))
  box : w.rowIs br 43 3 (boxv bq bo n R)
  ne1 : bq ≠ bo
  ne2 : br ≠ bo
  ne3 : bq ≠ br

theorem rota_start (w : World) (bq n : Nat) (nm : Nat → ByteArray) (z : Nat → Int) (hq : w.rowIs bq 32 (n * 2) (qv nm z)) :
    Rota ((w.alloc (.cells (madeCells #[.int .i64 0] n) 2)).alloc (.cells #[.slice (some ⟨bq, 0, none⟩) n n, .slice (some ⟨w.heap.size, 0, none⟩) n n, .int .i64 0] 43)) (w.heap.size + 1) bq w.heap.size n nm z (fun _ => 0) 0 := by
  have hlt := hq.lt
  refine ⟨(hq.alloc _).alloc _, (World.rowIs_made w _ n 2).alloc _, ?_, by omega, by omega, by omega⟩
  have h := World.rowIs_alloc (w.alloc (.cells (madeCells #[.int .i64 0] n) 2)) #[.slice (some ⟨bq, 0, none⟩) n n, .slice (some ⟨w.heap.size, 0, none⟩) n n, .int .i64 0] 43 (boxv bq w.heap.size n 0) (fun i hi => by
    have hi : i < 3 := hi
    match i, hi with
    | 0, _ => rfl
    | 1, _ => rfl
    | 2, _ => rfl)
  have e : (w.alloc (.cells (madeCells #[.int .i64 0] n) 2)).heap.size = w.heap.size + 1 := by simp
  rw [e] at h
  exact h

theorem Rota.alloc {w : World} {br bq bo n : Nat} {nm : Nat → ByteArray} {z o : Nat → Int} {R : Int} (h : Rota w br bq bo n nm z o R) (ob : Obj) : Rota (w.alloc ob) br bq bo n nm z o R :=
  ⟨h.qs.alloc _, h.owed.alloc _, h.box.alloc _, h.ne1, h.ne2, h.ne3⟩

theorem Rota.drew {w : World} {br bq bo n : Nat} {nm : Nat → ByteArray} {z o : Nat → Int} {R : Int} (h : Rota w br bq bo n nm z o R) : Rota w.drew br bq bo n nm z o R :=
  ⟨h.qs, h.owed, h.box, h.ne1, h.ne2, h.ne3⟩

theorem Rota.drewN {w : World} {br bq bo n : Nat} {nm : Nat → ByteArray} {z o : Nat → Int} {R : Int} (h : Rota w br bq bo n nm z o R) (q : Nat) : Rota (w.drewN q) br bq bo n nm z o R :=
  ⟨h.qs, h.owed, h.box, h.ne1, h.ne2, h.ne3⟩

theorem Rota.setRound {w : World} {br bq bo n : Nat} {nm : Nat → ByteArray} {z o : Nat → Int} {R : Int} (h : Rota w br bq bo n nm z o R) (R' : Int) : Rota (w.setCell ⟨br, 2, none⟩ (.int .i64 R')) br bq bo n nm z o R' :=
  ⟨h.qs.setOther (a := ⟨br, 2, none⟩) h.ne3 _, h.owed.setOther (a := ⟨br, 2, none⟩) (Ne.symm h.ne2) _, (h.box.set 2 _).congr (fun i hi => by
    unfold boxv
    by_cases e : i = 2
    · subst e; rfl
    · rw [if_neg e]
      by_cases e0 : i = 0
      · rw [if_pos e0, if_pos e0]
      · have e1 : i = 1 := by omega
        rw [if_neg e0, if_neg e0, if_pos e1, if_pos e1]), h.ne1, h.ne2, h.ne3⟩

theorem Rota.setOwed {w : World} {br bq bo n : Nat} {nm : Nat → ByteArray} {z o : Nat → Int} {R : Int} (h : Rota w br bq bo n nm z o R) (k : Nat) (x : Int) : Rota (w.setCell ⟨bo, k, none⟩ (.int .i64 x)) br bq bo n nm z (upd o k x) R :=
  ⟨h.qs.setOther (a := ⟨bo, k, none⟩) h.ne1 _, (h.owed.set k _).congr (fun i _ => by
    unfold upd
    by_cases e : i = k
    · rw [if_pos e, if_pos e]
    · rw [if_neg e, if_neg e]), h.box.setOther (a := ⟨bo, k, none⟩) h.ne2 _, h.ne1, h.ne2, h.ne3⟩

set_option maxHeartbeats 1000000 in
theorem new_any (bq n : Nat) (nm : Nat → ByteArray) (z : Nat → Int) (w : World) (h0 : 1 ≤ n) (hn : n ≤ 4096) (hz : ∀ i, i < n → 1 ≤ z i ∧ z i ≤ 1048576) (hq : w.rowIs bq 32 (n * 2) (qv nm z)) :
    Calls Try.prog 21 #[.slice (some ⟨bq, 0, none⟩) n n] w fun e w' => ∃ br bo, e = .returned (.pointer (some ⟨br, 0, none⟩)) ∧ Rota w' br bq bo n nm z (fun _ => 0) (Plain.sum z n) ∧ w.heap.size ≤ br ∧ w.heap.size ≤ bo ∧ Below w.heap.size w w' := by
  have hmk := run_make_row' 40 2 (.int .i64 0) 8 Try.underlying40 info2 rfl .i64 .i64 n (by omega) (by omega)
  go_enter Try.func21, Try.ntmps21
  have HQ : Hid (w.rowIs bq 32 (n * 2) (qv nm z)) := hq
  have HZ : Hid (∀ i, i < n → 1 ≤ z i ∧ z i ≤ 1048576) := hz
  clear hq hz
  go_wp2
  go_loopw [14] (fun i wr => ∃ k : Nat, k ≤ n ∧ i = .int .i64 k ∧ Rota wr (w.heap.size + 1) bq w.heap.size n nm z (fun _ => 0) (Plain.sum z k) ∧ Below w.heap.size w wr) (fun i _ => n - (intOf i).toNat)
  case atStart => exact ⟨0, Nat.zero_le _, rfl, rota_start w bq n nm z HQ.out, ((Below.refl _ _).alloc (Nat.le_refl _) _).alloc (by simp) _⟩
  case round =>
    obtain ⟨k, hk, rfl, hB, hbel⟩ := hrel
    have HB : Hid (Rota wr (w.heap.size + 1) bq w.heap.size n nm z (fun _ => 0) (Plain.sum z k)) := hB
    have HL : Hid (Below w.heap.size w wr) := hbel
    by_cases hlt : k < n
    · have d0 := hB.qs.cell (i := k * 2) (by omega)
      have d1 := hB.qs.cell (i := k * 2 + 1) (by omega)
      rw [qv_name] at d0
      rw [qv_weight] at d1
      have d2 : wr.cell? ⟨w.heap.size + 1, 2, none⟩ = some (.int .i64 (Plain.sum z k)) := hB.box.cell (i := 2) (by omega)
      have f2 := hB.box.frozen 2
      have l1 := hB.box.lt
      have l2 := hB.qs.lt
      obtain ⟨q1, q2⟩ := sum_bd z 1048576 (by omega) k (fun i hi => HZ.out i (by omega))
      have q4 : Plain.sum z k ≤ 4294967296 := by omega
      obtain ⟨q5, q6⟩ := HZ.out k hlt
      clear hB hbel q2
      go_wp2
      go_region
      go_wp2
      go_roundw
      case rel => exact ⟨k + 1, by omega, by go_num, ((HB.out.setRound _).alloc _).drew, ((HL.out.setCell (by simp) _).alloc (by simp; omega) _).drew⟩
      case measure => simp [intOf]; omega
    · go_wp2
      go_ret
      obtain rfl : k = n := by omega
      exact ⟨_, _, rfl, HB.out, by omega, by omega, HL.out⟩


theorem ZZnew_any (bq n : Nat) (nm : Nat → ByteArray) (z : Nat → Int) (w : World) (h0 : 1 ≤ n) (hn : n ≤ 4096) (hz : ∀ i, i < n → 1 ≤ z i ∧ z i ≤ 1048576) (hq : w.rowIs bq 32 (n * 2) (qv nm z)) :
    Calls Try.prog 16 #[.slice (some ⟨bq, 0, none⟩) n n] w fun e w' => ∃ br bo, e = .returned (.pointer (some ⟨br, 0, none⟩)) ∧ Rota w' br bq bo n nm z (fun _ => 0) (Plain.sum z n) ∧ w.heap.size ≤ br ∧ w.heap.size ≤ bo ∧ Below w.heap.size w w' := by
  have HQ : Hid (w.rowIs bq 32 (n * 2) (qv nm z)) := hq
  have HZ : Hid (∀ i, i < n → 1 ≤ z i ∧ z i ≤ 1048576) := hz
  clear hq hz
  go_enter Try.func16, Try.ntmps16
  go_wp2_with fail
  refine (new_any bq n nm z _ h0 hn HZ.out HQ.out).mono ?_
  rintro e w' ⟨br, bo, rfl, h1, h2, h3, h4⟩
  have H : Hid (Rota w' br bq bo n nm z (fun _ => 0) (Plain.sum z n) ∧ w.heap.size ≤ br ∧ w.heap.size ≤ bo ∧ Below w.heap.size w w') := ⟨h1, h2, h3, h4⟩
  clear h1 h2 h3 h4
  go_wp2
  go_ret
  exact ⟨br, bo, rfl, H.out⟩

/-- The owed row within a turn, behind k rounds of its loop. -/
def mid (z o : Nat → Int) (k i : Nat) : Int := if i < k then o i + z i else o i

theorem grown_refl (w : World) (b : Nat) : w.grownBy w (some b) := ⟨rfl, rfl, rfl, Nat.le_refl _, fun _ _ _ => rfl⟩

theorem grown_trans {w w1 w2 : World} {b : Nat} (h : w.grownBy w1 (some b)) (k : w1.grownBy w2 (some b)) : w.grownBy w2 (some b) :=
  ⟨k.os.trans h.os, k.tape.trans h.tape, k.output.trans h.output, Nat.le_trans h.size k.size, fun i hi hne => (k.block i (Nat.lt_of_lt_of_le hi h.size) hne).trans (h.block i hi hne)⟩

theorem grown_set (w : World) (b k : Nat) (x : Value) : w.grownBy (w.setCell ⟨b, k, none⟩ x) (some b) :=
  ⟨rfl, rfl, rfl, by simp [World.setCell], fun i _ hne => Below.heap_setCell w ⟨b, k, none⟩ x i (fun e => hne (by rw [e]))⟩

theorem grown_drewN {w w1 : World} {b : Nat} (h : w.grownBy w1 (some b)) (q : Nat) : w.grownBy (w1.drewN q) (some b) := ⟨h.os, h.tape, h.output, h.size, h.block⟩
theorem grown_drew {w w1 : World} {b : Nat} (h : w.grownBy w1 (some b)) : w.grownBy w1.drew (some b) := ⟨h.os, h.tape, h.output, h.size, h.block⟩

theorem Rota.congr {w : World} {br bq bo n : Nat} {nm : Nat → ByteArray} {z o o' : Nat → Int} {R : Int} (h : Rota w br bq bo n nm z o R) (e : ∀ i, i < n → o i = o' i) : Rota w br bq bo n nm z o' R :=
  ⟨h.qs, h.owed.congr (fun i hi => by rw [e i hi]), h.box, h.ne1, h.ne2, h.ne3⟩

theorem mid_step (z o : Nat → Int) (k i : Nat) : upd (mid z o k) k (o k + z k) i = mid z o (k + 1) i := by
  unfold upd mid
  by_cases e : i = k
  · subst e; rw [if_pos rfl, if_pos (by omega)]
  · rw [if_neg e]
    by_cases e2 : i < k
    · rw [if_pos e2, if_pos (by omega)]
    · rw [if_neg e2, if_neg (by omega)]

/-- What holds within a turn behind k rounds. -/
structure Mid (w : World) (br bq bo n : Nat) (nm : Nat → ByteArray) (z o : Nat → Int) (R : Int) (k : Nat) (wr : World) : Prop where
  rota : Rota wr br bq bo n nm z (mid z o k) R
  grown : w.grownBy wr (some bo)

theorem Mid.step {w wr : World} {br bq bo n k : Nat} {nm : Nat → ByteArray} {z o : Nat → Int} {R : Int} (h : Mid w br bq bo n nm z o R k wr) (ob : Obj) :
    Mid w br bq bo n nm z o R (k + 1) ((wr.setCell ⟨bo, k, none⟩ (.int .i64 (o k + z k))).alloc ob).drew :=
  ⟨(((h.rota.setOwed k (o k + z k)).congr (fun i _ => mid_step z o k i)).alloc ob).drew, grown_drew (grown_trans (grown_trans h.grown (grown_set wr bo k _)) (World.grownBy_alloc _ ob _))⟩

theorem Mid.drewN {w wr : World} {br bq bo n k : Nat} {nm : Nat → ByteArray} {z o : Nat → Int} {R : Int} (h : Mid w br bq bo n nm z o R k wr) (q : Nat) : Mid w br bq bo n nm z o R k (wr.drewN q) :=
  ⟨h.rota.drewN q, grown_drewN h.grown q⟩

theorem best_yes {v : Nat → Int} {k T : Nat} (hT : T = Plain.best v k) (h : v T < v k) : k = Plain.best v (k + 1) := by
  show k = if v (Plain.best v k) < v k then k else Plain.best v k
  rw [← hT, if_pos h]
theorem best_no {v : Nat → Int} {k T : Nat} (hT : T = Plain.best v k) (h : ¬ v T < v k) : T = Plain.best v (k + 1) := by
  show T = if v (Plain.best v k) < v k then k else Plain.best v k
  rw [← hT, if_neg h]

theorem stp_of (n : Nat) (z o : Nat → Int) (R : Int) (T : Nat) (hT : T = Plain.best (fun j => o j + z j) n) (i : Nat) (hi : i < n) : upd (mid z o n) T (o T + z T - R) i = Plain.stp n z R o i := by
  unfold upd mid Plain.stp
  rw [← hT, if_pos hi]
  by_cases e : i = T
  · rw [if_pos e, if_pos e, e]
  · rw [if_neg e, if_neg e]

set_option maxHeartbeats 2000000 in
theorem next_any (br bq bo n : Nat) (nm : Nat → ByteArray) (z o : Nat → Int) (R : Int) (w : World) (h0 : 1 ≤ n) (hn : n ≤ 4096) (hz : ∀ i, i < n → 1 ≤ z i ∧ z i ≤ 1048576)
    (ho : ∀ i, i < n → -1099511627776 ≤ o i ∧ o i ≤ 1099511627776) (hR : 0 ≤ R ∧ R ≤ 1048576) (hr : Rota w br bq bo n nm z o R) :
    Calls Try.prog 22 #[.pointer (some ⟨br, 0, none⟩)] w fun e w' => e = .returned (.int .i64 (Plain.best (fun j => o j + z j) n)) ∧ Rota w' br bq bo n nm z (Plain.stp n z R o) R ∧ w.grownBy w' (some bo) := by
  have HQ : Hid (Rota w br bq bo n nm z o R) := hr
  have HZ : Hid (∀ i, i < n → 1 ≤ z i ∧ z i ≤ 1048576) := hz
  have HO : Hid (∀ i, i < n → -1099511627776 ≤ o i ∧ o i ≤ 1099511627776) := ho
  have d0 : w.cell? ⟨br, 0, none⟩ = some (.slice (some ⟨bq, 0, none⟩) n n) := hr.box.cell (i := 0) (by omega)
  clear hr hz ho
  go_enter Try.func22, Try.ntmps22
  go_wp2
  go_loopw [3, 11] (fun t i wr => ∃ k T : Nat, k ≤ n ∧ i = .int .i64 k ∧ t = .int .i64 T ∧ T ≤ k ∧ T < n ∧ T = Plain.best (fun j => o j + z j) k ∧ Mid w br bq bo n nm z o R k wr) (fun _ i _ => n - (intOf i).toNat)
  case atStart => exact ⟨0, 0, Nat.zero_le _, rfl, rfl, Nat.le_refl _, by omega, rfl, ⟨HQ.out.congr (fun i _ => by simp [mid]), grown_refl _ _⟩⟩
  case round =>
    obtain ⟨k, T, hk, rfl, rfl, hTk, hTn, hT, hM⟩ := hrel
    have HT : Hid (T = Plain.best (fun j => o j + z j) k) := hT
    have HM : Hid (Mid w br bq bo n nm z o R k wr) := hM
    clear hT
    by_cases hlt : k < n
    · have d1 := hM.rota.qs.cell (i := k * 2) (by omega)
      have d2 := hM.rota.qs.cell (i := k * 2 + 1) (by omega)
      rw [qv_name] at d1
      rw [qv_weight] at d2
      have d3 : wr.cell? ⟨br, 1, none⟩ = some (.slice (some ⟨bo, 0, none⟩) n n) := hM.rota.box.cell (i := 1) (by omega)
      have d4 : wr.cell? ⟨bo, k, none⟩ = some (.int .i64 (o k)) := by
        rw [hM.rota.owed.cell hlt]
        unfold mid
        rw [if_neg (by omega)]
      have f4 := hM.rota.owed.frozen k
      have l1 := hM.rota.box.lt
      have l2 := hM.rota.qs.lt
      have l3 := hM.rota.owed.lt
      obtain ⟨q1, q2⟩ := HO.out k hlt
      obtain ⟨q5, q6⟩ := HZ.out k hlt
      clear hM
      go_wp2
      go_region
      have hM2 := HM.out.step (.cells #[.string (nm k), .int .i64 (z k)] 32)
      have HM2 : Hid (Mid w br bq bo n nm z o R (k + 1) _) := hM2
      generalize ((wr.setCell ⟨bo, k, none⟩ (.int .i64 (o k + z k))).alloc (.cells #[.string (nm k), .int .i64 (z k)] 32)).drew = w2 at hM2 HM2 ⊢
      have e3 : w2.cell? ⟨br, 1, none⟩ = some (.slice (some ⟨bo, 0, none⟩) n n) := hM2.rota.box.cell (i := 1) (by omega)
      have e4 : w2.cell? ⟨bo, k, none⟩ = some (.int .i64 (o k + z k)) := by
        rw [hM2.rota.owed.cell hlt]
        unfold mid
        rw [if_pos (by omega)]
      have e5 : w2.cell? ⟨bo, T, none⟩ = some (.int .i64 (o T + z T)) := by
        rw [hM2.rota.owed.cell hTn]
        unfold mid
        rw [if_pos (by omega)]
      clear hM2 d1 d2 d3 d4 f4
      by_cases hc : o T + z T < o k + z k
      · go_wp2_with fail
        go_quiet (fail)
        go_wp2
        go_roundw
        case rel => exact ⟨k + 1, k, by omega, by go_num, rfl, by omega, hlt, best_yes HT.out hc, HM2.out.drewN _⟩
        case measure => simp [intOf]; omega
      · have hcd : decide (o T + z T < o k + z k) = false := by simpa using hc
        go_wp2_with fail
        go_quiet (fail)
        go_wp2
        go_roundw
        case rel => exact ⟨k + 1, T, by omega, by go_num, rfl, by omega, hTn, best_no HT.out (by show ¬ (o T + z T < o k + z k); omega), HM2.out.drewN _⟩
        case measure => simp [intOf]; omega
    · obtain rfl : k = n := by omega
      have d3 : wr.cell? ⟨br, 1, none⟩ = some (.slice (some ⟨bo, 0, none⟩) k k) := hM.rota.box.cell (i := 1) (by omega)
      have d5 : wr.cell? ⟨br, 2, none⟩ = some (.int .i64 R) := hM.rota.box.cell (i := 2) (by omega)
      have d4 : wr.cell? ⟨bo, T, none⟩ = some (.int .i64 (o T + z T)) := by
        rw [hM.rota.owed.cell hTn]
        unfold mid
        rw [if_pos hTn]
      have f4 := hM.rota.owed.frozen T
      obtain ⟨q1, q2⟩ := HO.out T hTn
      obtain ⟨q5, q6⟩ := HZ.out T hTn
      obtain ⟨q7, q8⟩ := hR
      clear hM
      go_wp2
      go_region
      have HF : Hid (Rota (wr.setCell ⟨bo, T, none⟩ (.int .i64 (o T + z T - R))).drew br bq bo k nm z (Plain.stp k z R o) R ∧ w.grownBy (wr.setCell ⟨bo, T, none⟩ (.int .i64 (o T + z T - R))).drew (some bo)) :=
        ⟨((HM.out.rota.setOwed T (o T + z T - R)).congr (fun i hi => stp_of k z o R T HT.out i hi)).drew, grown_drew (grown_trans HM.out.grown (grown_set wr bo T _))⟩
      generalize (wr.setCell ⟨bo, T, none⟩ (.int .i64 (o T + z T - R))).drew = w2 at HF ⊢
      clear d3 d5 d4 f4
      go_wp2
      go_ret
      exact ⟨by rw [← HT.out]; rfl, HF.out⟩

theorem ZZnext_any (br bq bo n : Nat) (nm : Nat → ByteArray) (z o : Nat → Int) (R : Int) (w : World) (h0 : 1 ≤ n) (hn : n ≤ 4096) (hz : ∀ i, i < n → 1 ≤ z i ∧ z i ≤ 1048576)
    (ho : ∀ i, i < n → -1099511627776 ≤ o i ∧ o i ≤ 1099511627776) (hR : 0 ≤ R ∧ R ≤ 1048576) (hr : Rota w br bq bo n nm z o R) :
    Calls Try.prog 18 #[.pointer (some ⟨br, 0, none⟩)] w fun e w' => e = .returned (.int .i64 (Plain.best (fun j => o j + z j) n)) ∧ Rota w' br bq bo n nm z (Plain.stp n z R o) R ∧ w.grownBy w' (some bo) := by
  have HQ : Hid (Rota w br bq bo n nm z o R) := hr
  have HZ : Hid (∀ i, i < n → 1 ≤ z i ∧ z i ≤ 1048576) := hz
  have HO : Hid (∀ i, i < n → -1099511627776 ≤ o i ∧ o i ≤ 1099511627776) := ho
  clear hr hz ho
  go_enter Try.func18, Try.ntmps18
  go_wp2_with fail
  refine (next_any br bq bo n nm z o R _ h0 hn HZ.out HO.out hR HQ.out).mono ?_
  rintro e w' ⟨rfl, h1, h2⟩
  have H : Hid (Rota w' br bq bo n nm z (Plain.stp n z R o) R ∧ w.grownBy w' (some bo)) := ⟨h1, h2⟩
  clear h1 h2
  go_wp2
  go_ret
  exact ⟨rfl, H.out⟩

end Go.Proofs.Qxb6600790a.Rot

/-
  Qxb6600790aPlain: the plain law of the smooth weighted rotation. No Go here.
-/
namespace Go.Proofs.Qxb6600790a.Plain

def sum (f : Nat → Int) : Nat → Int
  | 0 => 0
  | n + 1 => sum f n + f n

/-- The first place of the greatest among v 0 .. v (n - 1). -/
def best (v : Nat → Int) : Nat → Nat
  | 0 => 0
  | n + 1 => if v (best v n) < v n then n else best v n

theorem best_le (v : Nat → Int) : ∀ n, best v n ≤ n
  | 0 => Nat.le_refl _
  | n + 1 => by
    have := best_le v n
    unfold best
    split <;> omega

theorem best_lt (v : Nat → Int) : ∀ n, 0 < n → best v n < n
  | 0, h => absurd h (by omega)
  | n + 1, _ => by
    have := best_le v n
    unfold best
    split <;> omega

theorem best_max (v : Nat → Int) : ∀ n i, i < n → v i ≤ v (best v n)
  | 0, i, h => absurd h (by omega)
  | n + 1, i, h => by
    have ih := best_max v n
    unfold best
    split
    · rename_i hlt
      rcases Nat.lt_or_ge i n with e | e
      · have := ih i e; omega
      · have : i = n := by omega
        subst this; omega
    · rename_i hge
      rcases Nat.lt_or_ge i n with e | e
      · exact ih i e
      · have : i = n := by omega
        subst this; omega

theorem best_congr {v u : Nat → Int} : ∀ n, (∀ i, i < n → v i = u i) → best v n = best u n
  | 0, _ => rfl
  | n + 1, h => by
    have ih := best_congr n (fun i hi => h i (by omega))
    unfold best
    rw [ih, h n (by omega)]
    rcases Nat.eq_zero_or_pos n with e | e
    · subst e
      have : v (best u 0) = u (best u 0) := h _ (by simp [best])
      rw [this]
    · rw [h (best u n) (by have := best_lt u n e; omega)]

theorem sum_congr {f g : Nat → Int} : ∀ n, (∀ i, i < n → f i = g i) → sum f n = sum g n
  | 0, _ => rfl
  | n + 1, h => by
    unfold sum
    rw [sum_congr n (fun i hi => h i (by omega)), h n (by omega)]

theorem sum_add (f g : Nat → Int) : ∀ n, sum (fun i => f i + g i) n = sum f n + sum g n
  | 0 => rfl
  | n + 1 => by
    unfold sum
    rw [sum_add f g n]
    omega

theorem sum_le (f g : Nat → Int) : ∀ n, (∀ i, i < n → f i ≤ g i) → sum f n ≤ sum g n
  | 0, _ => Int.le_refl _
  | n + 1, h => by
    unfold sum
    have := sum_le f g n (fun i hi => h i (by omega))
    have := h n (by omega)
    omega

theorem sum_zero : ∀ n, sum (fun _ => 0) n = 0
  | 0 => rfl
  | n + 1 => by unfold sum; rw [sum_zero n]; rfl

theorem sum_at (k : Nat) (c : Int) : ∀ n, sum (fun i => if i = k then c else 0) n = if k < n then c else 0
  | 0 => by simp [sum]
  | n + 1 => by
    unfold sum
    rw [sum_at k c n]
    by_cases e : n = k
    · subst e; simp
    · rw [if_neg e]
      by_cases e2 : k < n
      · rw [if_pos e2, if_pos (by omega)]; omega
      · rw [if_neg e2, if_neg (by omega)]; omega

theorem sum_nonneg_zero (f : Nat → Int) : ∀ n, (∀ i, i < n → 0 ≤ f i) → sum f n = 0 → ∀ i, i < n → f i = 0
  | 0, _, _, i, h => absurd h (by omega)
  | n + 1, h, hs, i, hi => by
    unfold sum at hs
    have h1 : 0 ≤ sum f n := by
      have := sum_le (fun _ => 0) f n (fun i hi => h i (by omega))
      rw [sum_zero] at this
      exact this
    have h2 := h n (by omega)
    rcases Nat.lt_or_ge i n with e | e
    · exact sum_nonneg_zero f n (fun i hi => h i (by omega)) (by omega) i e
    · have : i = n := by omega
      subst this; omega

/-- One turn: everybody is owed his weight more; the one owed most is owed a round less. -/
def stp (n : Nat) (z : Nat → Int) (R : Int) (o : Nat → Int) (i : Nat) : Int :=
  if i = best (fun j => o j + z j) n then o i + z i - R else o i + z i

def st (n : Nat) (z : Nat → Int) (R : Int) : Nat → Nat → Int
  | 0 => fun _ => 0
  | t + 1 => stp n z R (st n z R t)

/-- Who has turn t. -/
def who (n : Nat) (z : Nat → Int) (R : Int) (t : Nat) : Nat := best (fun j => st n z R t j + z j) n

/-- How many of the first t turns i has had. -/
def cnt (n : Nat) (z : Nat → Int) (R : Int) : Nat → Nat → Nat
  | 0 => fun _ => 0
  | t + 1 => fun i => cnt n z R t i + if i = who n z R t then 1 else 0

theorem st_eq (n : Nat) (z : Nat → Int) (R : Int) : ∀ t i, st n z R t i = t * z i - R * cnt n z R t i
  | 0, i => by simp [st, cnt]
  | t + 1, i => by
    have ih := st_eq n z R t i
    unfold st stp cnt who
    rw [ih]
    have e1 : ((t + 1 : Nat) : Int) * z i = t * z i + z i := by rw [Int.natCast_add, Int.add_mul]; simp
    rw [e1]
    split
    · have e2 : R * ((cnt n z R t i + 1 : Nat) : Int) = R * cnt n z R t i + R := by rw [Int.natCast_add, Int.mul_add]; simp
      rw [e2]; omega
    · simp; omega

theorem cnt_le (n : Nat) (z : Nat → Int) (R : Int) : ∀ t i, cnt n z R t i ≤ t
  | 0, _ => Nat.le_refl _
  | t + 1, i => by
    have := cnt_le n z R t i
    unfold cnt
    split <;> omega

theorem cnt_sum (n : Nat) (z : Nat → Int) (R : Int) (hn : 0 < n) : ∀ t, sum (fun i => (cnt n z R t i : Int)) n = t
  | 0 => by
    simp only [cnt]
    exact sum_zero n
  | t + 1 => by
    have ih := cnt_sum n z R hn t
    have e : ∀ i, i < n → ((cnt n z R (t + 1) i : Nat) : Int) = (cnt n z R t i : Int) + (if i = who n z R t then 1 else 0) := by
      intro i _
      show ((cnt n z R t i + (if i = who n z R t then 1 else 0) : Nat) : Int) = _
      split <;> simp
    rw [sum_congr n e, sum_add, ih, sum_at, if_pos (show who n z R t < n from best_lt _ n hn)]
    omega

theorem sum_mul (c : Int) (f : Nat → Int) : ∀ n, sum (fun i => c * f i) n = c * sum f n
  | 0 => by simp [sum]
  | n + 1 => by
    unfold sum
    rw [sum_mul c f n, Int.mul_add]

theorem st_sum (n : Nat) (z : Nat → Int) (R : Int) (hn : 0 < n) (hR : sum z n = R) (t : Nat) : sum (st n z R t) n = 0 := by
  have e : ∀ i, i < n → st n z R t i = (t : Int) * z i + (-R) * cnt n z R t i := by
    intro i _
    rw [st_eq, Int.neg_mul]
    omega
  rw [sum_congr n e, sum_add, sum_mul, sum_mul, cnt_sum n z R hn, hR, Int.neg_mul, Int.mul_comm]
  omega

/-- Nobody is ever a whole round in debt. -/
theorem st_low (n : Nat) (z : Nat → Int) (R : Int) (hn : 0 < n) (hz : ∀ i, i < n → 1 ≤ z i) (hR : sum z n = R) (hp : 0 < R) : ∀ t i, i < n → -R < st n z R t i
  | 0, i, _ => by simp [st]; omega
  | t + 1, i, hi => by
    have ih := st_low n z R hn hz hR hp t i hi
    have hb := best_lt (fun j => st n z R t j + z j) n hn
    have hpos : 0 < st n z R t (best (fun j => st n z R t j + z j) n) + z (best (fun j => st n z R t j + z j) n) := by
      rcases Int.lt_or_le 0 (st n z R t (best (fun j => st n z R t j + z j) n) + z (best (fun j => st n z R t j + z j) n)) with h | h
      · exact h
      · exfalso
        have h1 := sum_le (fun j => st n z R t j + z j) (fun _ => 0) n (fun j hj => Int.le_trans (best_max (fun j => st n z R t j + z j) n j hj) h)
        rw [sum_add, st_sum n z R hn hR, sum_zero, hR] at h1
        omega
    have hzi := hz i hi
    show -R < stp n z R (st n z R t) i
    unfold stp
    split
    · rename_i e
      rw [← e] at hpos
      omega
    · omega

/-- THE LAW of the whole turn. -/
theorem ahead (n : Nat) (z : Nat → Int) (R : Int) (hn : 0 < n) (hz : ∀ i, i < n → 1 ≤ z i) (hR : sum z n = R) (hp : 0 < R) (t i : Nat) (hi : i < n) :
    R * cnt n z R t i < t * z i + R := by
  have := st_low n z R hn hz hR hp t i hi
  rw [st_eq] at this
  omega

/-- THE LAW of the round: behind R turns each has had his weight. -/
theorem round_cnt (n : Nat) (z : Nat → Int) (R : Nat) (hn : 0 < n) (hz : ∀ i, i < n → 1 ≤ z i) (hR : sum z n = R) (hp : 0 < R) (i : Nat) (hi : i < n) :
    (cnt n z R R i : Int) = z i := by
  have hle : ∀ j, j < n → 0 ≤ z j - cnt n z R R j := by
    intro j hj
    have h1 := ahead n z R hn hz hR (by omega) R j hj
    have h2 : (R : Int) * (cnt n z R R j : Int) < (R : Int) * (z j + 1) := by
      rw [Int.mul_add]; omega
    have h3 := Int.lt_of_mul_lt_mul_left h2 (by omega)
    omega
  have hs : sum (fun j => z j - cnt n z R R j) n = 0 := by
    have e : ∀ j, j < n → z j - (cnt n z R R j : Int) = z j + (-1) * (cnt n z R R j : Int) := by intro j _; omega
    rw [sum_congr n e, sum_add, sum_mul, cnt_sum n z R hn, hR]
    omega
  have := sum_nonneg_zero _ n hle hs i hi
  omega

theorem st_round (n : Nat) (z : Nat → Int) (R : Nat) (hn : 0 < n) (hz : ∀ i, i < n → 1 ≤ z i) (hR : sum z n = R) (hp : 0 < R) (i : Nat) (hi : i < n) : st n z R R i = 0 := by
  rw [st_eq, round_cnt n z R hn hz hR hp i hi]
  omega

theorem stp_congr {n : Nat} {z : Nat → Int} {R : Int} {o p : Nat → Int} (h : ∀ i, i < n → o i = p i) (i : Nat) (hi : i < n) : stp n z R o i = stp n z R p i := by
  unfold stp
  rw [best_congr n (u := fun j => p j + z j) (fun j hj => by rw [h j hj]), h i hi]

/-- The second round repeats the first. -/
theorem st_again (n : Nat) (z : Nat → Int) (R : Nat) (hn : 0 < n) (hz : ∀ i, i < n → 1 ≤ z i) (hR : sum z n = R) (hp : 0 < R) : ∀ t i, i < n → st n z R (R + t) i = st n z R t i
  | 0, i, hi => by rw [Nat.add_zero, st_round n z R hn hz hR hp i hi]; rfl
  | t + 1, i, hi => stp_congr (fun j hj => st_again n z R hn hz hR hp t j hj) i hi

theorem who_again (n : Nat) (z : Nat → Int) (R : Nat) (hn : 0 < n) (hz : ∀ i, i < n → 1 ≤ z i) (hR : sum z n = R) (hp : 0 < R) (t : Nat) : who n z R (R + t) = who n z R t :=
  best_congr n (fun j hj => by rw [st_again n z R hn hz hR hp t j hj])

theorem who_lt (n : Nat) (z : Nat → Int) (R : Int) (hn : 0 < n) (t : Nat) : who n z R t < n := best_lt _ n hn

/-- The round opens with the heaviest, the first among equals. -/
theorem who_first (n : Nat) (z : Nat → Int) (R : Int) : who n z R 0 = best z n :=
  best_congr n (fun j _ => by show (0 : Int) + z j = z j; omega)

end Go.Proofs.Qxb6600790a.Plain

/-
  Qxb6600790aTurns: what the two rotation laws share: the state of memory turn by turn.
-/
import Derived.Test.Qxb6600790aRot
namespace Go.Proofs.Qxb6600790a.Turns
open Go.ChangeShapes Go.WideShapes Go.ChangeAt Go.RowKit Go.Proofs.Qxb6600790a.Base Go.Proofs.Qxb6600790a.Queues Go.Proofs.Qxb6600790a.Rot

def IsRoundN (n : Nat) (z : Nat → Int) (M : Int) (e : Ending) : Prop :=
  e = .returned (.int .i64 (-1)) ∨ ∃ R : Nat, e = .returned (.int .i64 (R : Int)) ∧ Plain.sum z n = R ∧ ∀ i, i < n → 1 ≤ z i ∧ z i ≤ M

theorem round_nat (b off n cap : Nat) (z : Nat → Int) (M : Int) (w : World) (hn : n ≤ 4096) (hM0 : 0 ≤ M) (hM : M ≤ 1048576) (hr : Row w b off n (fun i => .int .i64 (z i))) :
    Calls Try.prog 15 #[.slice (some ⟨b, off, none⟩) n cap, .int .i64 M] w fun e w' => IsRoundN n z M e ∧ w' = w := by
  refine (round_any b off n cap z M w hn hM0 hM hr).mono ?_
  rintro e w' ⟨h, rfl⟩
  refine ⟨?_, rfl⟩
  rcases h with h | ⟨h, hz⟩
  · exact Or.inl h
  · have hb := (sum_bd z M hM0 n hz).1
    obtain ⟨R, hR⟩ := Int.eq_ofNat_of_zero_le hb
    exact Or.inr ⟨R, by rw [h, hR], hR, hz⟩

theorem clone10 (b off n cap : Nat) (z : Nat → Int) (w : World) (hn : n ≤ 1048576) (hr : Row w b off n (fun i => .int .i64 (z i))) :
    Calls Try.prog 10 #[.slice (some ⟨b, off, none⟩) n cap] w fun e w' => ∃ b', e = .returned (.slice (some ⟨b', 0, none⟩) n n) ∧ w'.rowIs b' 3 n (fun i => .int .i64 (z i)) ∧ w.heap.size ≤ b' ∧ Below w.heap.size w w' := by
  refine (clone_ints b off n cap z w hn hr).mono ?_
  rintro e w' ⟨rfl, h⟩
  exact ⟨_, rfl, h.row, Nat.le_refl _, h.below⟩

theorem uniform17 (b off n cap : Nat) (z : Nat → Int) (w : World) (hn : n ≤ 4096) (hr : Row w b off n (fun i => .int .i64 (z i))) :
    Calls Try.prog 17 #[.slice (some ⟨b, off, none⟩) n cap] w fun e w' => ∃ b', e = .returned (.slice (some ⟨b', 0, none⟩) n n) ∧ w'.rowIs b' 32 (n * 2) (qv (fun _ => qname) z) ∧ w.heap.size ≤ b' ∧ Below w.heap.size w w' := by
  refine (uniform_any b off n cap z w hn hr).mono ?_
  rintro e w' ⟨rfl, h⟩
  refine ⟨_, rfl, h.row.congr (fun j hj => ?_), Nat.le_refl _, h.below⟩
  unfold qv
  dsimp only
  rw [if_pos (show j / 2 < n by omega), if_pos (show j / 2 < n by omega)]

/-- The blocks: the rotation's three, the weights' clone, a table of the law's own; which are apart, and which are new. -/
structure Apart (w : World) (br bq bo bw bt : Nat) : Prop where
  o : w.heap.size ≤ bo
  t : w.heap.size ≤ bt
  wo : bw ≠ bo
  to : bt ≠ bo
  wt : bw ≠ bt
  tr : br ≠ bt
  tq : bq ≠ bt

/-- Memory behind τ turns, the law's own table reading c. -/
structure S (w : World) (br bq bo bw bt n : Nat) (z : Nat → Int) (R : Int) (ty : TypeId) (N : Nat) (τ : Nat) (c : Nat → Int) (wr : World) : Prop where
  rota : Rota wr br bq bo n (fun _ => qname) z (Plain.st n z R τ) R
  wts : wr.rowIs bw 3 n (fun i => .int .i64 (z i))
  tab : wr.rowIs bt ty N (fun i => .int .i64 (c i))
  below : Below w.heap.size w wr

theorem S.next {w wr w' : World} {br bq bo bw bt n : Nat} {z : Nat → Int} {R : Int} {ty : TypeId} {N τ : Nat} {c : Nat → Int} (h : S w br bq bo bw bt n z R ty N τ c wr) (ap : Apart w br bq bo bw bt)
    (hr : Rota w' br bq bo n (fun _ => qname) z (Plain.stp n z R (Plain.st n z R τ)) R) (hg : wr.grownBy w' (some bo)) : S w br bq bo bw bt n z R ty N (τ + 1) c w' :=
  ⟨hr, h.wts.of_block (hg.block bw h.wts.lt (fun e => ap.wo (by simpa using e))), h.tab.of_block (hg.block bt h.tab.lt (fun e => ap.to (by simpa using e))),
    h.below.grown hg h.below.size (fun k e => by simp only [Option.some.injEq] at e; rw [← e]; exact ap.o)⟩

theorem S.set {w wr : World} {br bq bo bw bt n : Nat} {z : Nat → Int} {R : Int} {ty : TypeId} {N τ : Nat} {c : Nat → Int} (h : S w br bq bo bw bt n z R ty N τ c wr) (ap : Apart w br bq bo bw bt) (k : Nat) (x : Int) :
    S w br bq bo bw bt n z R ty N τ (upd c k x) (wr.setCell ⟨bt, k, none⟩ (.int .i64 x)) :=
  ⟨⟨h.rota.qs.setOther (a := ⟨bt, k, none⟩) ap.tq _, h.rota.owed.setOther (a := ⟨bt, k, none⟩) (Ne.symm ap.to) _, h.rota.box.setOther (a := ⟨bt, k, none⟩) ap.tr _, h.rota.ne1, h.rota.ne2, h.rota.ne3⟩,
    h.wts.setOther (a := ⟨bt, k, none⟩) ap.wt _, (h.tab.set k _).congr (fun i _ => by
      unfold upd
      by_cases e : i = k
      · rw [if_pos e, if_pos e]
      · rw [if_neg e, if_neg e]), h.below.setCell ap.t _⟩

theorem S.congr {w wr : World} {br bq bo bw bt n : Nat} {z : Nat → Int} {R : Int} {ty : TypeId} {N τ : Nat} {c c' : Nat → Int} (h : S w br bq bo bw bt n z R ty N τ c wr) (e : ∀ i, i < N → c i = c' i) : S w br bq bo bw bt n z R ty N τ c' wr :=
  ⟨h.rota, h.wts, h.tab.congr (fun i hi => by rw [e i hi]), h.below⟩

theorem S.drewN {w wr : World} {br bq bo bw bt n : Nat} {z : Nat → Int} {R : Int} {ty : TypeId} {N τ : Nat} {c : Nat → Int} (h : S w br bq bo bw bt n z R ty N τ c wr) (q : Nat) : S w br bq bo bw bt n z R ty N τ c (wr.drewN q) :=
  ⟨h.rota.drewN q, h.wts, h.tab, below_drewN h.below q⟩

theorem S.start {w w3 : World} {br bq bo bw n : Nat} {z : Nat → Int} {R : Int} (ty : TypeId) (N : Nat) (h : Rota w3 br bq bo n (fun _ => qname) z (fun _ => 0) R) (hw : w3.rowIs bw 3 n (fun i => .int .i64 (z i))) (hb : Below w.heap.size w w3) :
    S w br bq bo bw w3.heap.size n z R ty N 0 (fun _ => 0) (w3.alloc (.cells (madeCells #[.int .i64 0] N) ty)) :=
  ⟨h.alloc _, hw.alloc _, World.rowIs_made w3 _ N ty, hb.alloc hb.size _⟩

/-- What the rotation owes stays small. -/
theorem st_bd (n : Nat) (z : Nat → Int) (R : Nat) (hn : 0 < n) (hz : ∀ i, i < n → 1 ≤ z i ∧ z i ≤ 1048576) (hR : Plain.sum z n = R) (hp : 0 < R) (hR2 : R ≤ 1048576) (τ : Nat) (hτ : τ ≤ 131072) :
    ∀ i, i < n → -1099511627776 ≤ Plain.st n z R τ i ∧ Plain.st n z R τ i ≤ 1099511627776 := by
  intro i hi
  have h1 := Plain.st_low n z R hn (fun j hj => (hz j hj).1) hR (by omega) τ i hi
  refine ⟨by omega, ?_⟩
  rw [Plain.st_eq]
  have h2 : 0 ≤ (R : Int) * (Plain.cnt n z R τ i : Int) := Int.mul_nonneg (by omega) (by omega)
  have h3 : (τ : Int) * z i ≤ 131072 * 1048576 := Int.mul_le_mul (by omega) (hz i hi).2 (by have := (hz i hi).1; omega) (by omega)
  omega

/-- One turn, as the laws meet it. -/
theorem next_S {w : World} {br bq bo bw bt n : Nat} {z : Nat → Int} {R : Nat} {ty : TypeId} {N τ : Nat} {c : Nat → Int} (wr : World) (h0 : 1 ≤ n) (hn : n ≤ 4096) (hz : ∀ i, i < n → 1 ≤ z i ∧ z i ≤ 1048576) (hR : Plain.sum z n = R) (hp : 0 < R) (hR2 : R ≤ 1048576) (hτ : τ ≤ 131072)
    (ap : Apart w br bq bo bw bt) (h : S w br bq bo bw bt n z R ty N τ c wr) :
    Calls Try.prog 18 #[.pointer (some ⟨br, 0, none⟩)] wr fun e w' => ∃ J : Nat, e = .returned (.int .i64 (J : Int)) ∧ J = Plain.who n z R τ ∧ J < n ∧ S w br bq bo bw bt n z R ty N (τ + 1) c w' := by
  refine (ZZnext_any br bq bo n (fun _ => qname) z (Plain.st n z R τ) R wr h0 hn hz (st_bd n z R h0 hz hR hp hR2 τ hτ) ⟨by omega, by omega⟩ h.rota).mono ?_
  rintro e w' ⟨rfl, r, g⟩
  exact ⟨Plain.who n z R τ, rfl, rfl, Plain.who_lt n z R h0 τ, h.next ap r g⟩

theorem cell_block {w : World} {a : Addr} {v : Value} (h : w.cell? a = some v) : a.block < w.heap.size := by
  rcases Nat.lt_or_ge a.block w.heap.size with h1 | h1
  · exact h1
  · have : w.heap[a.block]? = none := Array.getElem?_eq_none h1
    simp [World.cell?, this] at h

/-- A slice of integers that came in, as the shells tell it: its row. -/
theorem row_of {w : World} {a : Option Addr} {len cap : Nat} {zs : List Int}
    (h : (a = none ∧ len = 0 ∧ cap = 0 ∧ zs = []) ∨ ∃ x, a = some x ∧ len ≤ cap ∧ cap ≤ maxLen ∧ zs.length = cap ∧ (∀ i, i < zs.length → w.cell? (x.add i) = some (.int .i64 (zs.getD i 0))) ∧ ∀ n ∈ zs, (Lit.int .i64 n).wf = true)
    (hp : 0 < len) : ∃ b off, a = some ⟨b, off, none⟩ ∧ Row w b off len (fun i => .int .i64 (zs.getD i 0)) := by
  rcases h with ⟨_, h, _⟩ | ⟨x, rfl, hl, hm, hz, hc, _⟩
  · omega
  · obtain ⟨b, off, spot⟩ := x
    have hspot : spot = none := by simpa [Addr.add] using World.cell?_spot (hc 0 (by omega))
    subst hspot
    refine ⟨b, off, rfl, cell_block (hc 0 (by omega)), fun i hi => ?_⟩
    rw [← Go.WideShapes.add_plain]
    exact hc i (by omega)

theorem len_of {w : World} {a : Option Addr} {len cap : Nat} {zs : List Int}
    (h : (a = none ∧ len = 0 ∧ cap = 0 ∧ zs = []) ∨ ∃ x, a = some x ∧ len ≤ cap ∧ cap ≤ maxLen ∧ zs.length = cap ∧ (∀ i, i < zs.length → w.cell? (x.add i) = some (.int .i64 (zs.getD i 0))) ∧ ∀ n ∈ zs, (Lit.int .i64 n).wf = true) :
    len ≤ 9223372036854775807 := by
  rcases h with ⟨_, h, _⟩ | ⟨x, _, hl, hm, _⟩
  · omega
  · unfold maxLen at hm; omega

end Go.Proofs.Qxb6600790a.Turns

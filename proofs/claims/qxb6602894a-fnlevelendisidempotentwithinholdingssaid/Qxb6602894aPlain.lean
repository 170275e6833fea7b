namespace Go.Proofs.Qxb6602894a

/-- The running total behind i further levels. -/
def tot (left : Int) (zs : List Int) (lv : Nat) : Nat → Int
  | 0 => left
  | i + 1 => tot left zs lv i + zs.getD (lv + (i + 1)) 0

def maxI : Int := 9223372036854775807

/-- The domain: the level is a level, nothing is negative, each later level holds something, the whole fits. -/
def Dom (left : Int) (zs : List Int) (lv : Nat) : Prop :=
  lv < zs.length ∧ 0 ≤ left ∧ (∀ i, lv + (i + 1) < zs.length → 0 < zs.getD (lv + (i + 1)) 0) ∧ tot left zs lv (zs.length - 1 - lv) ≤ maxI

/-- The last index of the running totals. -/
def last (zs : List Int) (lv : Nat) : Nat := zs.length - 1 - lv

theorem Dom.step {left : Int} {zs : List Int} {lv : Nat} (h : Dom left zs lv) {i : Nat} (hi : i < last zs lv) : tot left zs lv i < tot left zs lv (i + 1) := by
  have := h.2.2.1 i (by unfold last at hi; omega)
  show _ < _ + _
  omega

theorem Dom.mono {left : Int} {zs : List Int} {lv : Nat} (h : Dom left zs lv) {i j : Nat} (hij : i ≤ j) (hj : j ≤ last zs lv) : tot left zs lv i ≤ tot left zs lv j := by
  induction j with
  | zero => have : i = 0 := by omega
            subst this; exact Int.le_refl _
  | succ j ih =>
    rcases Nat.lt_or_ge i (j + 1) with h1 | h1
    · have h2 := ih (by omega) (by omega)
      have h3 := h.step (i := j) (by omega)
      omega
    · have : i = j + 1 := by omega
      subst this; exact Int.le_refl _

theorem Dom.lt {left : Int} {zs : List Int} {lv : Nat} (h : Dom left zs lv) {i j : Nat} (hij : i < j) (hj : j ≤ last zs lv) : tot left zs lv i < tot left zs lv j := by
  have h1 := h.step (i := i) (by omega)
  have h2 := h.mono (i := i + 1) (j := j) (by omega) hj
  omega

theorem Dom.nonneg {left : Int} {zs : List Int} {lv : Nat} (h : Dom left zs lv) {i : Nat} (hi : i ≤ last zs lv) : 0 ≤ tot left zs lv i := by
  have := h.mono (i := 0) (j := i) (by omega) hi
  have h0 := h.2.1
  have : tot left zs lv 0 = left := rfl
  omega

theorem Dom.le_max {left : Int} {zs : List Int} {lv : Nat} (h : Dom left zs lv) {i : Nat} (hi : i ≤ last zs lv) : tot left zs lv i ≤ maxI := by
  have h1 := h.mono hi (Nat.le_refl _)
  have h2 : tot left zs lv (last zs lv) ≤ maxI := h.2.2.2
  omega

/-- Index i is the first whose total reaches q. -/
def First (left : Int) (zs : List Int) (lv : Nat) (q : Int) (i : Nat) : Prop :=
  i ≤ last zs lv ∧ q ≤ tot left zs lv i ∧ ∀ j, j < i → tot left zs lv j < q

theorem First.unique {left : Int} {zs : List Int} {lv : Nat} {q : Int} {i j : Nat} (h : First left zs lv q i) (h2 : First left zs lv q j) : i = j := by
  rcases Nat.lt_trichotomy i j with h3 | h3 | h3
  · have := h2.2.2 i h3; have := h.2.1; omega
  · exact h3
  · have := h.2.2 j h3; have := h2.2.1; omega

/-- A fill of exactly an end ends there. -/
theorem First.self {left : Int} {zs : List Int} {lv : Nat} (hd : Dom left zs lv) {i : Nat} (hi : i ≤ last zs lv) : First left zs lv (tot left zs lv i) i :=
  ⟨hi, Int.le_refl _, fun _ hj => hd.lt hj hi⟩

theorem First.mono {left : Int} {zs : List Int} {lv : Nat} (hd : Dom left zs lv) {p q : Int} {i j : Nat} (h : First left zs lv p i) (h2 : First left zs lv q j) (hpq : p ≤ q) : tot left zs lv i ≤ tot left zs lv j := by
  rcases Nat.lt_or_ge j i with h3 | h3
  · have := h.2.2 j h3; have := h2.2.1; omega
  · exact hd.mono h3 h2.1

theorem First.within {left : Int} {zs : List Int} {lv : Nat} {p q : Int} {i j : Nat} (h : First left zs lv p i) (h2 : First left zs lv q j) (hpq : p ≤ q) (hq : q ≤ tot left zs lv i) : i = j := by
  have h3 : First left zs lv q i := ⟨h.1, hq, fun k hk => by have := h.2.2 k hk; omega⟩
  exact h3.unique h2

theorem First.past {left : Int} {zs : List Int} {lv : Nat} {q : Int} {i j : Nat} (h2 : First left zs lv q j) (hq : tot left zs lv i < q) : tot left zs lv i < tot left zs lv j := by
  have := h2.2.1; omega

end Go.Proofs.Qxb6602894a

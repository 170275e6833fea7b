namespace Go.Proofs.Qxb6601896a

/-- The k lowest base-256 digits of n, the highest first. -/
def be : Nat → Nat → List Int
  | 0, _ => []
  | k + 1, n => be k (n / 256) ++ [((n % 256 : Nat) : Int)]

theorem be_length (k n : Nat) : (be k n).length = k := by
  induction k generalizing n with
  | zero => rfl
  | succ k ih => simp [be, ih]

theorem be_cons (k n : Nat) : be (k + 1) n = ((n / 256 ^ k % 256 : Nat) : Int) :: be k n := by
  induction k generalizing n with
  | zero => simp [be]
  | succ k ih =>
    rw [show be (k + 1 + 1) n = be (k + 1) (n / 256) ++ [((n % 256 : Nat) : Int)] from rfl, ih (n / 256), show be (k + 1) n = be k (n / 256) ++ [((n % 256 : Nat) : Int)] from rfl,
      Nat.div_div_eq_div_mul, show 256 * 256 ^ k = 256 ^ (k + 1) from by rw [Nat.pow_succ, Nat.mul_comm]]
    rfl

/-- What appendLength puts behind b, for the length N. -/
def LenBytes (N : Int) (zs : List Int) : Prop :=
  (N < 128 ∧ zs = [N % 256]) ∨ (128 ≤ N ∧ ∃ J : Nat, 1 ≤ J ∧ J ≤ 8 ∧ 256 ^ (J - 1) ≤ N.toNat ∧ N.toNat < 256 ^ J ∧ zs = (128 + (J : Int)) :: be J N.toNat)

theorem LenBytes.length {N : Int} {zs : List Int} (h : LenBytes N zs) : 1 ≤ zs.length ∧ zs.length ≤ 9 := by
  rcases h with ⟨_, rfl⟩ | ⟨_, J, h1, h2, _, _, rfl⟩
  · simp
  · simp only [List.length_cons, be_length]; omega

end Go.Proofs.Qxb6601896a

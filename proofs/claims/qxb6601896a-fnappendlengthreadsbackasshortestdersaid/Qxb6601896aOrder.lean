import Derived.Test.Qxb6601896aPlain
namespace Go.Proofs.Qxb6601896a

/-- Byte by byte, the first difference decides; else the length does. -/
def cmpB : List Int → List Int → Int
  | [], [] => 0
  | [], _ :: _ => -1
  | _ :: _, [] => 1
  | x :: xs, y :: ys => if x < y then -1 else if y < x then 1 else cmpB xs ys

theorem cmp_self (a : List Int) : cmpB a a = 0 := by
  induction a with
  | nil => rfl
  | cons x a ih => simp [cmpB, ih]

theorem cmp_swap (a b : List Int) : cmpB b a = - cmpB a b := by
  induction a generalizing b with
  | nil => cases b <;> simp [cmpB]
  | cons x a ih =>
    cases b with
    | nil => simp [cmpB]
    | cons y b =>
      simp only [cmpB]
      by_cases h : x < y
      · have h2 : ¬ y < x := by omega
        simp [h, h2]
      · by_cases h2 : y < x
        · simp [h, h2]
        · simp [h, h2, ih]

theorem cmp_snoc (a b : List Int) (x y : Int) (h : a.length = b.length) : cmpB (a ++ [x]) (b ++ [y]) = if cmpB a b = 0 then cmpB [x] [y] else cmpB a b := by
  induction a generalizing b with
  | nil =>
    cases b with
    | nil => simp [cmpB]
    | cons z b => simp at h
  | cons z a ih =>
    cases b with
    | nil => simp at h
    | cons u b =>
      have hl : a.length = b.length := by simpa using h
      simp only [List.cons_append, cmpB]
      by_cases h1 : z < u
      · simp [h1]
      · by_cases h2 : u < z
        · simp [h1, h2]
        · simp only [h1, h2, if_false]
          exact ih b hl

theorem cmp_be (k m n : Nat) (hm : m < n) (hn : n < 256 ^ k) : cmpB (be k m) (be k n) = -1 := by
  induction k generalizing m n with
  | zero => simp at hn; omega
  | succ k ih =>
    rw [show be (k + 1) m = be k (m / 256) ++ [((m % 256 : Nat) : Int)] from rfl, show be (k + 1) n = be k (n / 256) ++ [((n % 256 : Nat) : Int)] from rfl, cmp_snoc _ _ _ _ (by rw [be_length, be_length])]
    have hn2 : n / 256 < 256 ^ k := by
      rw [Nat.pow_succ] at hn
      exact Nat.div_lt_of_lt_mul (by rw [Nat.mul_comm]; exact hn)
    by_cases h : m / 256 < n / 256
    · rw [ih _ _ h hn2]; simp
    · have he : m / 256 = n / 256 := by omega
      rw [he, cmp_self]
      have h3 : ((m % 256 : Nat) : Int) < ((n % 256 : Nat) : Int) := by omega
      rw [if_pos rfl]
      simp only [cmpB]
      rw [if_pos h3]

theorem lenBytes_lt (m n : Int) (xs ys : List Int) (hm : 0 ≤ m) (h : m < n) (h1 : LenBytes m xs) (h2 : LenBytes n ys) : cmpB xs ys = -1 := by
  rcases h1 with ⟨a1, rfl⟩ | ⟨a1, J, b1, b2, b3, b4, rfl⟩
  · rcases h2 with ⟨c1, rfl⟩ | ⟨c1, K, d1, d2, d3, d4, rfl⟩
    · have : m % 256 < n % 256 := by omega
      simp [cmpB, this]
    · have : m % 256 < 128 + (K : Int) := by omega
      simp [cmpB, this]
  · rcases h2 with ⟨c1, rfl⟩ | ⟨c1, K, d1, d2, d3, d4, rfl⟩
    · omega
    · have hmn : m.toNat < n.toNat := by omega
      have hJK : J ≤ K := by
        rcases Nat.lt_or_ge K J with h3 | h3
        · have h4 : 256 ^ K ≤ 256 ^ (J - 1) := Nat.pow_le_pow_right (by omega) (by omega)
          omega
        · exact h3
      rcases Nat.lt_or_ge J K with h3 | h3
      · have : (128 : Int) + J < 128 + K := by omega
        simp [cmpB, this]
      · have : J = K := by omega
        subst this
        simp [cmpB, cmp_be _ _ _ hmn d4]

theorem lenBytes_eq (m : Int) (xs ys : List Int) (h1 : LenBytes m xs) (h2 : LenBytes m ys) : xs = ys := by
  rcases h1 with ⟨a1, rfl⟩ | ⟨a1, J, b1, b2, b3, b4, rfl⟩
  · rcases h2 with ⟨c1, rfl⟩ | ⟨c1, K, d1, d2, d3, d4, rfl⟩
    · rfl
    · omega
  · rcases h2 with ⟨c1, rfl⟩ | ⟨c1, K, d1, d2, d3, d4, rfl⟩
    · omega
    · have hJK : J = K := by
        rcases Nat.lt_trichotomy J K with h3 | h3 | h3
        · have h4 : 256 ^ J ≤ 256 ^ (K - 1) := Nat.pow_le_pow_right (by omega) (by omega)
          omega
        · exact h3
        · have h4 : 256 ^ K ≤ 256 ^ (J - 1) := Nat.pow_le_pow_right (by omega) (by omega)
          omega
      rw [hJK]

end Go.Proofs.Qxb6601896a

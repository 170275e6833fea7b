namespace Go.Proofs.Qxb6601943a

def hexVal (c : Int) : Int :=
  if 48 ≤ c ∧ c ≤ 57 then c - 48 else if 97 ≤ c ∧ c ≤ 102 then c - 87 else if 65 ≤ c ∧ c ≤ 70 then c - 55 else -1
def isHexB (c : Int) : Bool := decide (0 ≤ hexVal c)
def hexDigit (d : Int) : Int := if d < 10 then 48 + d else 55 + d
def isUp (c : Int) : Bool := decide ((48 ≤ c ∧ c ≤ 57) ∨ (65 ≤ c ∧ c ≤ 70))
/-- '%' and the two upper-case hex digits of c. -/
def pct (c : Int) : List Int := [37, hexDigit (c / 16), hexDigit (c % 16)]
def encByte (K : Nat → Bool) (c : Int) : List Int := if K c.toNat = true then [c] else pct c
def encAll (K : Nat → Bool) (xs : List Int) : List Int := xs.flatMap (encByte K)
def dec : List Int → List Int
  | c :: h :: l :: r => if c = 37 ∧ 0 ≤ hexVal h ∧ 0 ≤ hexVal l then (hexVal h * 16 + hexVal l) :: dec r else c :: dec (h :: l :: r)
  | [c, d] => [c, d]
  | [c] => [c]
  | [] => []
def encKeep (K : Nat → Bool) : List Int → List Int
  | c :: h :: l :: r => if K c.toNat = false ∧ c = 37 ∧ 0 ≤ hexVal h ∧ 0 ≤ hexVal l then c :: h :: l :: encKeep K r else encByte K c ++ encKeep K (h :: l :: r)
  | [c, d] => encByte K c ++ encByte K d
  | [c] => encByte K c
  | [] => []
/-- What escape writes, by the percent rule p. -/
def esc (K : Nat → Bool) (p : Int) : List Int → List Int
  | c :: h :: l :: r =>
    if K c.toNat = true then c :: esc K p (h :: l :: r)
    else if c = 37 ∧ p ≠ 0 ∧ 0 ≤ hexVal h ∧ 0 ≤ hexVal l then
      (if p = 1 then [c, h, l] else if p = 2 then encByte K (hexVal h * 16 + hexVal l) else pct c) ++ esc K p r
    else pct c ++ esc K p (h :: l :: r)
  | [c, d] => encByte K c ++ encByte K d
  | [c] => encByte K c
  | [] => []
def canon (K : Nat → Bool) : List Int → Bool
  | c :: h :: l :: r =>
    if c ≠ 37 then (if K c.toNat = true then canon K (h :: l :: r) else false)
    else if isUp h = true ∧ isUp l = true ∧ K (hexVal h * 16 + hexVal l).toNat = false then canon K r else false
  | [c, d] => decide (c ≠ 37) && K c.toNat && decide (d ≠ 37) && K d.toNat
  | [c] => decide (c ≠ 37) && K c.toNat
  | [] => true

def IsB (xs : List Int) : Prop := ∀ x ∈ xs, 0 ≤ x ∧ x < 256

theorem hexVal_lt (c : Int) : hexVal c < 16 := by unfold hexVal; split <;> (try split) <;> (try split) <;> omega

theorem hexVal_digit (d : Int) (h0 : 0 ≤ d) (h1 : d < 16) : hexVal (hexDigit d) = d := by
  unfold hexDigit hexVal
  by_cases h : d < 10
  · rw [if_pos h, if_pos (by omega)]; omega
  · rw [if_neg h, if_neg (by omega), if_neg (by omega), if_pos (by omega)]; omega

theorem isUp_digit (d : Int) (h0 : 0 ≤ d) (h1 : d < 16) : isUp (hexDigit d) = true := by
  unfold hexDigit isUp
  by_cases h : d < 10
  · rw [if_pos h, decide_eq_true_eq]; omega
  · rw [if_neg h, decide_eq_true_eq]; omega

theorem hexDigit_range (d : Int) (h0 : 0 ≤ d) (h1 : d < 16) : 0 ≤ hexDigit d ∧ hexDigit d < 256 := by
  unfold hexDigit; split <;> omega

theorem pct_isB (c : Int) (h0 : 0 ≤ c) (h1 : c < 256) : IsB (pct c) := by
  intro x hx
  have a := hexDigit_range (c / 16) (by omega) (by omega)
  have b := hexDigit_range (c % 16) (by omega) (by omega)
  simp only [pct, List.mem_cons, List.not_mem_nil, or_false] at hx
  rcases hx with rfl | rfl | rfl
  · omega
  · exact a
  · exact b

theorem encByte_isB (K : Nat → Bool) (c : Int) (h0 : 0 ≤ c) (h1 : c < 256) : IsB (encByte K c) := by
  unfold encByte
  split
  · intro x hx
    simp only [List.mem_cons, List.not_mem_nil, or_false] at hx
    omega
  · exact pct_isB c h0 h1

theorem isB_append {xs ys : List Int} (h : IsB xs) (h2 : IsB ys) : IsB (xs ++ ys) := by
  intro x hx
  rcases List.mem_append.1 hx with h' | h'
  · exact h x h'
  · exact h2 x h'

theorem isB_cons {x : Int} {xs : List Int} (h : IsB (x :: xs)) : (0 ≤ x ∧ x < 256) ∧ IsB xs := ⟨h x (by simp), fun y hy => h y (by simp [hy])⟩

theorem isB_mk {x : Int} {xs : List Int} (h : 0 ≤ x ∧ x < 256) (h2 : IsB xs) : IsB (x :: xs) := by
  intro y hy
  rcases List.mem_cons.1 hy with rfl | h'
  · exact h
  · exact h2 y h'

theorem dec_isB : ∀ (xs : List Int), IsB xs → IsB (dec xs)
  | c :: h :: l :: r, hb => by
    have h1 := isB_cons hb
    have h2 := isB_cons h1.2
    have h3 := isB_cons h2.2
    simp only [dec]
    split
    · rename_i hc
      have a := hexVal_lt h
      have b := hexVal_lt l
      exact isB_mk (by omega) (dec_isB r h3.2)
    · exact isB_mk h1.1 (dec_isB (h :: l :: r) h1.2)
  | [c, d], hb => hb
  | [c], hb => hb
  | [], hb => hb

theorem encAll_cons (K : Nat → Bool) (c : Int) (r : List Int) : encAll K (c :: r) = encByte K c ++ encAll K r := rfl

theorem dec_other (c : Int) (r : List Int) (h : c ≠ 37) : dec (c :: r) = c :: dec r := by
  match r with
  | [] => rfl
  | [d] => rfl
  | h1 :: l :: r => simp [dec, h]

theorem dec_pct (c : Int) (r : List Int) (h0 : 0 ≤ c) (h1 : c < 256) : dec (pct c ++ r) = c :: dec r := by
  have a := hexVal_digit (c / 16) (by omega) (by omega)
  have b := hexVal_digit (c % 16) (by omega) (by omega)
  show dec (37 :: hexDigit (c / 16) :: hexDigit (c % 16) :: r) = _
  rw [dec, if_pos ⟨rfl, by omega, by omega⟩, a, b]
  congr 1
  omega

/-- Decoding undoes encoding, where '%' is not kept. -/
theorem dec_encAll (K : Nat → Bool) (h37 : K 37 = false) : ∀ (xs : List Int), IsB xs → dec (encAll K xs) = xs
  | [], _ => rfl
  | c :: r, hb => by
    have h1 := isB_cons hb
    rw [encAll_cons, encByte]
    split
    · rename_i hk
      have hc : c ≠ 37 := by
        intro e; subst e
        have : K 37 = true := hk
        rw [h37] at this; cases this
      show dec (c :: encAll K r) = _
      rw [dec_other c _ hc, dec_encAll K h37 r h1.2]
    · rw [dec_pct c _ h1.1.1 h1.1.2, dec_encAll K h37 r h1.2]

theorem canon_kept (K : Nat → Bool) (c : Int) (r : List Int) (h : c ≠ 37) (hk : K c.toNat = true) : canon K (c :: r) = canon K r := by
  match r with
  | [] => simp [canon, h, hk]
  | [d] => simp [canon, h, hk]
  | h1 :: l :: r => simp [canon, h, hk]

theorem canon_pct (K : Nat → Bool) (c : Int) (r : List Int) (h0 : 0 ≤ c) (h1 : c < 256) (hk : ¬ K c.toNat = true) : canon K (pct c ++ r) = canon K r := by
  have a := hexVal_digit (c / 16) (by omega) (by omega)
  have b := hexVal_digit (c % 16) (by omega) (by omega)
  have a2 := isUp_digit (c / 16) (by omega) (by omega)
  have b2 := isUp_digit (c % 16) (by omega) (by omega)
  show canon K (37 :: hexDigit (c / 16) :: hexDigit (c % 16) :: r) = _
  have e : c / 16 * 16 + c % 16 = c := by omega
  have hk' : K c.toNat = false := by simpa using hk
  rw [canon, if_neg (by simp), a, b, e, if_pos ⟨a2, b2, hk'⟩]

theorem canon_encAll (K : Nat → Bool) (h37 : K 37 = false) : ∀ (xs : List Int), IsB xs → canon K (encAll K xs) = true
  | [], _ => rfl
  | c :: r, hb => by
    have h1 := isB_cons hb
    rw [encAll_cons, encByte]
    split
    · rename_i hk
      have hc : c ≠ 37 := by
        intro e; subst e
        have : K 37 = true := hk
        rw [h37] at this; cases this
      show canon K (c :: encAll K r) = _
      rw [canon_kept K c _ hc hk, canon_encAll K h37 r h1.2]
    · rename_i hk
      rw [canon_pct K c _ h1.1.1 h1.1.2 hk, canon_encAll K h37 r h1.2]

theorem encAll_isB (K : Nat → Bool) : ∀ (xs : List Int), IsB xs → IsB (encAll K xs)
  | [], _ => fun x hx => by cases hx
  | c :: r, hb => by
    have h1 := isB_cons hb
    rw [encAll_cons]
    exact isB_append (encByte_isB K c h1.1.1 h1.1.2) (encAll_isB K r h1.2)

theorem encByte_yes {K : Nat → Bool} {c : Int} (h : K c.toNat = true) : encByte K c = [c] := by unfold encByte; rw [if_pos h]
theorem encByte_no {K : Nat → Bool} {c : Int} (h : K c.toNat = false) : encByte K c = pct c := by unfold encByte; rw [if_neg (by simp [h])]

theorem esc_zero (K : Nat → Bool) : ∀ (xs : List Int), esc K 0 xs = encAll K xs
  | c :: h :: l :: r => by
    rw [esc, encAll_cons, ← esc_zero K (h :: l :: r)]
    cases hk : K c.toNat with
    | true => rw [if_pos rfl, encByte_yes hk]; rfl
    | false => rw [if_neg (by simp), if_neg (by simp), encByte_no hk]
  | [c, d] => by simp [esc, encAll]
  | [c] => by simp [esc, encAll]
  | [] => rfl

theorem esc_one (K : Nat → Bool) : ∀ (xs : List Int), esc K 1 xs = encKeep K xs
  | c :: h :: l :: r => by
    rw [esc, encKeep, esc_one K (h :: l :: r), esc_one K r]
    cases hk : K c.toNat with
    | true => rw [if_pos rfl, if_neg (by simp), encByte_yes hk]; rfl
    | false =>
      rw [if_neg (by simp)]
      by_cases hx : c = 37 ∧ 0 ≤ hexVal h ∧ 0 ≤ hexVal l
      · rw [if_pos ⟨hx.1, by decide, hx.2⟩, if_pos rfl, if_pos ⟨rfl, hx⟩]; rfl
      · rw [if_neg (fun h => hx ⟨h.1, h.2.2⟩), if_neg (fun h => hx h.2), encByte_no hk]
  | [c, d] => rfl
  | [c] => rfl
  | [] => rfl

theorem esc_two (K : Nat → Bool) (h37 : K 37 = false) : ∀ (xs : List Int), esc K 2 xs = encAll K (dec xs)
  | c :: h :: l :: r => by
    rw [esc, esc_two K h37 (h :: l :: r), esc_two K h37 r]
    cases hk : K c.toNat with
    | true =>
      have hc : c ≠ 37 := by
        intro e; subst e
        have : K 37 = true := hk
        rw [h37] at this; cases this
      rw [if_pos rfl, dec_other c _ hc, encAll_cons, encByte_yes hk]; rfl
    | false =>
      rw [if_neg (by simp)]
      by_cases hx : c = 37 ∧ 0 ≤ hexVal h ∧ 0 ≤ hexVal l
      · rw [if_pos ⟨hx.1, by decide, hx.2⟩, if_neg (by decide), if_pos rfl, dec, if_pos hx, encAll_cons]
      · rw [if_neg (fun h => hx ⟨h.1, h.2.2⟩), dec, if_neg hx, encAll_cons, encByte_no hk]
  | [c, d] => by simp [esc, encAll, dec]
  | [c] => by simp [esc, encAll, dec]
  | [] => rfl

end Go.Proofs.Qxb6601943a

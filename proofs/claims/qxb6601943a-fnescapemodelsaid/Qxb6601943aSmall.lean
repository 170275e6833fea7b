import Derived.Test.Qxb6601943aProg
import Derived.Test.Qxb6601943aBytes
import Derived.Test.Qxb6601943aPlain
namespace Go.Proofs.Qxb6601943a
open Go.RowKit
set_option linter.unusedVariables false

theorem Try.info5 : (Try.prog.info? 5).map (fun i => (i.zero, i.size, i.bytes)) = some (some (.int .u8 0), 1, 1) := by kernel_rfl

theorem ret_int {k : IntKind} {a b : Int} (h : a = b) : Ending.returned (.int k a) = .returned (.int k b) := by rw [h]
theorem ret_bool {a b : Bool} (h : a = b) : Ending.returned (.bool a) = .returned (.bool b) := by rw [h]

theorem hexVal_1 {c : Int} (h1 : 48 ≤ c) (h2 : c ≤ 57) : hexVal c = c - 48 := by unfold hexVal; rw [if_pos ⟨h1, h2⟩]
theorem hexVal_2 {c : Int} (h1 : 97 ≤ c) (h2 : c ≤ 102) : hexVal c = c - 87 := by unfold hexVal; rw [if_neg (by omega), if_pos ⟨h1, h2⟩]
theorem hexVal_3 {c : Int} (h1 : 65 ≤ c) (h2 : c ≤ 70) : hexVal c = c - 55 := by unfold hexVal; rw [if_neg (by omega), if_neg (by omega), if_pos ⟨h1, h2⟩]
theorem hexVal_4 {c : Int} (h : c < 48 ∨ (57 < c ∧ c < 65) ∨ (70 < c ∧ c < 97) ∨ 102 < c) : hexVal c = -1 := by unfold hexVal; rw [if_neg (by omega), if_neg (by omega), if_neg (by omega)]
theorem hexDigit_1 {d : Int} (h : d < 10) : hexDigit d = 48 + d := by unfold hexDigit; rw [if_pos h]
theorem hexDigit_2 {d : Int} (h : 10 ≤ d) : hexDigit d = 65 + d - 10 := by unfold hexDigit; rw [if_neg (by omega)]; omega

theorem seven (c : Int) : c < 48 ∨ (48 ≤ c ∧ c ≤ 57) ∨ (57 < c ∧ c < 65) ∨ (65 ≤ c ∧ c ≤ 70) ∨ (70 < c ∧ c < 97) ∨ (97 ≤ c ∧ c ≤ 102) ∨ 102 < c := by omega

set_option maxHeartbeats 400000 in
theorem hexDigit_any (w : World) (d : Int) (h0 : 0 ≤ d) (h1 : d < 16) : Calls Try.prog 21 #[.int .u8 d] w fun e w' => e = .returned (.int .u8 (hexDigit d)) ∧ w' = w := by
  rcases Int.lt_or_le d 10 with h | h
  · rw [hexDigit_1 h]
    go_enter Try.func21, Try.ntmps21
    go_wp2_with fail
    go_ret
    exact ⟨rfl, rfl⟩
  · rw [hexDigit_2 h]
    go_enter Try.func21, Try.ntmps21
    go_wp2_with fail
    go_ret
    exact ⟨rfl, rfl⟩

set_option maxHeartbeats 1000000 in
theorem hexVal_any (w : World) (c : Int) (h0 : 0 ≤ c) (h1 : c < 256) : Calls Try.prog 17 #[.int .u8 c] w fun e w' => e = .returned (.int .i64 (hexVal c)) ∧ w' = w := by
  rcases seven c with ha | ⟨ha, hb⟩ | ⟨ha, hb⟩ | ⟨ha, hb⟩ | ⟨ha, hb⟩ | ⟨ha, hb⟩ | ha
  · rw [hexVal_4 (by omega)]
    go_enter Try.func17, Try.ntmps17
    go_wp2_with fail
    go_ret
    exact ⟨rfl, rfl⟩
  · rw [hexVal_1 ha hb]
    go_enter Try.func17, Try.ntmps17
    go_wp2_with fail
    go_ret
    exact ⟨rfl, rfl⟩
  · rw [hexVal_4 (by omega)]
    go_enter Try.func17, Try.ntmps17
    go_wp2_with fail
    go_ret
    exact ⟨rfl, rfl⟩
  · rw [hexVal_3 ha hb]
    go_enter Try.func17, Try.ntmps17
    go_wp2_with fail
    go_ret
    exact ⟨ret_int (by omega), rfl⟩
  · rw [hexVal_4 (by omega)]
    go_enter Try.func17, Try.ntmps17
    go_wp2_with fail
    go_ret
    exact ⟨rfl, rfl⟩
  · rw [hexVal_2 ha hb]
    go_enter Try.func17, Try.ntmps17
    go_wp2_with fail
    go_ret
    exact ⟨ret_int (by omega), rfl⟩
  · rw [hexVal_4 (by omega)]
    go_enter Try.func17, Try.ntmps17
    go_wp2_with fail
    go_ret
    exact ⟨rfl, rfl⟩

theorem isHexB_val (c : Int) (b : Bool) (h : b = decide (0 ≤ hexVal c)) : isHexB c = b := by rw [h]; rfl

set_option maxHeartbeats 1000000 in
theorem isHex_any (w : World) (c : Int) (h0 : 0 ≤ c) (h1 : c < 256) : Calls Try.prog 18 #[.int .u8 c] w fun e w' => e = .returned (.bool (isHexB c)) ∧ w' = w := by
  have hh : (isHexB c = true ∧ ((48 ≤ c ∧ c ≤ 57) ∨ (65 ≤ c ∧ c ≤ 70) ∨ (97 ≤ c ∧ c ≤ 102))) ∨ (isHexB c = false ∧ (c < 48 ∨ (57 < c ∧ c < 65) ∨ (70 < c ∧ c < 97) ∨ 102 < c)) := by
    rcases seven c with ha | ⟨ha, hb⟩ | ⟨ha, hb⟩ | ⟨ha, hb⟩ | ⟨ha, hb⟩ | ⟨ha, hb⟩ | ha
    · exact .inr ⟨by unfold isHexB; rw [hexVal_4 (by omega)]; rfl, by omega⟩
    · exact .inl ⟨by unfold isHexB; rw [hexVal_1 ha hb, decide_eq_true_eq]; omega, by omega⟩
    · exact .inr ⟨by unfold isHexB; rw [hexVal_4 (by omega)]; rfl, by omega⟩
    · exact .inl ⟨by unfold isHexB; rw [hexVal_3 ha hb, decide_eq_true_eq]; omega, by omega⟩
    · exact .inr ⟨by unfold isHexB; rw [hexVal_4 (by omega)]; rfl, by omega⟩
    · exact .inl ⟨by unfold isHexB; rw [hexVal_2 ha hb, decide_eq_true_eq]; omega, by omega⟩
    · exact .inr ⟨by unfold isHexB; rw [hexVal_4 (by omega)]; rfl, by omega⟩
  rcases hh with ⟨hb, hx⟩ | ⟨hb, hx⟩
  · rw [hb]
    clear hb
    rcases hx with ⟨ha, hb⟩ | ⟨ha, hb⟩ | ⟨ha, hb⟩
    all_goals
      go_enter Try.func18, Try.ntmps18
      go_wp2_with fail
      go_ret
      first | exact ⟨rfl, rfl⟩ | exact ⟨ret_bool (by simp; omega), rfl⟩
  · rw [hb]
    clear hb
    rcases hx with ha | ⟨ha, hb⟩ | ⟨ha, hb⟩ | ha
    all_goals
      go_enter Try.func18, Try.ntmps18
      go_wp2_with fail
      go_ret
      first | exact ⟨rfl, rfl⟩ | exact ⟨ret_bool (by simp; omega), rfl⟩

set_option maxHeartbeats 1000000 in
theorem isUp_any (w : World) (c : Int) (h0 : 0 ≤ c) (h1 : c < 256) : Calls Try.prog 16 #[.int .u8 c] w fun e w' => e = .returned (.bool (isUp c)) ∧ w' = w := by
  have hh : (isUp c = true ∧ ((48 ≤ c ∧ c ≤ 57) ∨ (65 ≤ c ∧ c ≤ 70))) ∨ (isUp c = false ∧ (c < 48 ∨ (57 < c ∧ c < 65) ∨ 70 < c)) := by
    by_cases hx : (48 ≤ c ∧ c ≤ 57) ∨ (65 ≤ c ∧ c ≤ 70)
    · exact .inl ⟨by unfold isUp; rw [decide_eq_true_eq]; exact hx, hx⟩
    · exact .inr ⟨by unfold isUp; rw [decide_eq_false_iff_not]; exact hx, by omega⟩
  rcases hh with ⟨hb, hx⟩ | ⟨hb, hx⟩
  · rw [hb]
    clear hb
    rcases hx with ⟨ha, hb⟩ | ⟨ha, hb⟩
    all_goals
      go_enter Try.func16, Try.ntmps16
      go_wp2_with fail
      go_ret
      first | exact ⟨rfl, rfl⟩ | exact ⟨ret_bool (by simp; omega), rfl⟩
  · rw [hb]
    clear hb
    rcases hx with ha | ⟨ha, hb⟩ | ha
    all_goals
      go_enter Try.func16, Try.ntmps16
      go_wp2_with fail
      go_ret
      first | exact ⟨rfl, rfl⟩ | exact ⟨ret_bool (by simp; omega), rfl⟩

set_option maxHeartbeats 1000000 in
theorem unhex_any (w : World) (c : Int) (h0 : 0 ≤ c) (h1 : c < 256) (hx : 0 ≤ hexVal c) : Calls Try.prog 19 #[.int .u8 c] w fun e w' => e = .returned (.int .u8 (hexVal c)) ∧ w' = w := by
  rcases seven c with ha | ⟨ha, hb⟩ | ⟨ha, hb⟩ | ⟨ha, hb⟩ | ⟨ha, hb⟩ | ⟨ha, hb⟩ | ha
  · rw [hexVal_4 (by omega)] at hx; omega
  · rw [hexVal_1 ha hb]
    clear hx
    go_enter Try.func19, Try.ntmps19
    go_wp2_with fail
    go_ret
    exact ⟨rfl, rfl⟩
  · rw [hexVal_4 (by omega)] at hx; omega
  · rw [hexVal_3 ha hb]
    clear hx
    go_enter Try.func19, Try.ntmps19
    go_wp2_with fail
    go_ret
    exact ⟨ret_int (by omega), rfl⟩
  · rw [hexVal_4 (by omega)] at hx; omega
  · rw [hexVal_2 ha hb]
    clear hx
    go_enter Try.func19, Try.ntmps19
    go_wp2_with fail
    go_ret
    exact ⟨ret_int (by omega), rfl⟩
  · rw [hexVal_4 (by omega)] at hx; omega

/-- The array behind the pointer kept: cell i says whether byte i is kept. -/
def Kept (w : World) (kb : Nat) (K : Nat → Bool) : Prop := ∀ i, i < 256 → w.cell? ⟨kb, i, none⟩ = some (.bool (K i))

theorem Kept.below {w w' : World} {kb B : Nat} {K : Nat → Bool} (h : Kept w kb K) (hb : Below B w w') (hk : kb < B) : Kept w' kb K := fun i hi => by
  rw [hb.cell (p := ⟨kb, i, none⟩) hk]
  exact h i hi

end Go.Proofs.Qxb6601943a

import Derived.Test.Qxb6601896aProg
import Derived.Test.Qxb6601896aBytes
import Derived.Test.Qxb6601896aOrder
import Derived.Deep.QuietTactic
import Derived.BigQuiet
namespace Go.Proofs.Qxb6601896a
open Go.RowKit
set_option linter.unusedVariables false

theorem cmp_at (xs ys : List Int) (k : Nat) (h1 : k < xs.length) (h2 : k < ys.length) :
    cmpB (xs.drop k) (ys.drop k) = if xs[k] < ys[k] then -1 else if ys[k] < xs[k] then 1 else cmpB (xs.drop (k + 1)) (ys.drop (k + 1)) := by
  rw [List.drop_eq_getElem_cons h1, List.drop_eq_getElem_cons h2]
  rfl

theorem cmp_end1 (xs ys : List Int) (k : Nat) (h1 : xs.length = k) (h2 : k < ys.length) : cmpB (xs.drop k) (ys.drop k) = -1 := by
  rw [List.drop_of_length_le (by omega), List.drop_eq_getElem_cons h2]
  rfl

theorem cmp_end2 (xs ys : List Int) (k : Nat) (h1 : ys.length = k) (h2 : k < xs.length) : cmpB (xs.drop k) (ys.drop k) = 1 := by
  rw [List.drop_of_length_le (show ys.length ≤ k by omega), List.drop_eq_getElem_cons h2]
  rfl

theorem cmp_end3 (xs ys : List Int) (k : Nat) (h1 : xs.length = k) (h2 : ys.length = k) : cmpB (xs.drop k) (ys.drop k) = 0 := by
  rw [List.drop_of_length_le (show ys.length ≤ k by omega), List.drop_of_length_le (show xs.length ≤ k by omega)]
  rfl

theorem ret_int {k : IntKind} {a b : Int} (h : a = b) : Ending.returned (.int k a) = .returned (.int k b) := by rw [h]

set_option maxHeartbeats 1000000 in
theorem cmp_any (w : World) (b1 o1 c1 b2 o2 c2 : Nat) (xs ys : List Int) (hx : ∀ j, j < xs.length → w.cell? ⟨b1, o1 + j, none⟩ = some (.int .u8 (xs.getD j 0))) (hy : ∀ j, j < ys.length → w.cell? ⟨b2, o2 + j, none⟩ = some (.int .u8 (ys.getD j 0)))
    (hlx : xs.length ≤ 10000000) (hly : ys.length ≤ 10000000) :
    Calls Try.prog 16 #[.slice (some ⟨b1, o1, none⟩) xs.length c1, .slice (some ⟨b2, o2, none⟩) ys.length c2] w fun e w' => e = .returned (.int .i64 (cmpB xs ys)) ∧ ∃ n, w' = w.drewN n := by
  go_enter Try.func16, Try.ntmps16
  go_wp2_with fail
  go_loopw [5] (fun i wr => ∃ k n : Nat, k ≤ xs.length ∧ k ≤ ys.length ∧ i = .int .i64 (k : Int) ∧ cmpB (xs.drop k) (ys.drop k) = cmpB xs ys ∧ wr = w.drewN n) (fun i _ => xs.length - (intOf i).toNat)
  case atStart => exact ⟨0, 0, by omega, by omega, rfl, rfl, rfl⟩
  case round =>
    obtain ⟨k, n, hk1, hk2, rfl, hc, rfl⟩ := hrel
    by_cases h1 : k < xs.length
    · by_cases h2 : k < ys.length
      · have hcx := hx k h1
        have hcy := hy k h2
        clear hx hy
        have hg1 : xs.getD k 0 = xs[k] := by simp [h1]
        have hg2 : ys.getD k 0 = ys[k] := by simp [h2]
        rw [hg1] at hcx
        rw [hg2] at hcy
        rw [cmp_at xs ys k h1 h2] at hc
        clear hg1 hg2
        by_cases hl : xs[k] < ys[k]
        · rw [if_pos hl] at hc
          have HC : Hid (-1 = cmpB xs ys) := hc
          clear hc
          go_wp2_with fail
          go_quiet (fail)
          go_wp2_with fail
          go_ret
          exact ⟨ret_int HC.out, _, World.drewN_drewN _ _ _⟩
        · rw [if_neg hl] at hc
          by_cases hl2 : ys[k] < xs[k]
          · rw [if_pos hl2] at hc
            have HC : Hid (1 = cmpB xs ys) := hc
            clear hc
            go_wp2_with fail
            go_quiet (fail)
            go_wp2_with fail
            go_quiet (fail)
            go_wp2_with fail
            go_ret
            exact ⟨ret_int HC.out, _, by rw [World.drewN_drewN, World.drewN_drewN]⟩
          · rw [if_neg hl2] at hc
            have HC : Hid (cmpB (xs.drop (k + 1)) (ys.drop (k + 1)) = cmpB xs ys) := hc
            clear hc
            go_wp2_with fail
            go_quiet (fail)
            go_wp2_with fail
            go_quiet (fail)
            go_wp2_with fail
            go_roundw
            case rel => exact ⟨k + 1, _, by omega, by omega, by go_num, HC.out, rfl⟩
            case measure => simp [intOf]; omega
      · have HC : Hid (1 = cmpB xs ys) := (cmp_end2 xs ys k (by omega) h1).symm.trans hc
        clear hc
        go_wp2_with fail
        go_ret
        exact ⟨ret_int HC.out, _, rfl⟩
    · by_cases h2 : k < ys.length
      · have HC : Hid (-1 = cmpB xs ys) := (cmp_end1 xs ys k (by omega) h2).symm.trans hc
        clear hc
        go_wp2_with fail
        go_ret
        exact ⟨ret_int HC.out, _, rfl⟩
      · have HC : Hid (0 = cmpB xs ys) := (cmp_end3 xs ys k (by omega) (by omega)).symm.trans hc
        clear hc
        go_wp2_with fail
        go_ret
        exact ⟨ret_int HC.out, _, rfl⟩

end Go.Proofs.Qxb6601896a

import Derived.Test.Qxb6601896aProg
import Derived.Test.Qxb6601896aBytes
import Derived.Deep.QuietTactic
import Derived.BigQuiet
namespace Go.Proofs.Qxb6601896a
open Go.RowKit
set_option linter.unusedVariables false

set_option maxHeartbeats 1000000 in
theorem same_row (w : World) (b1 o1 c1 b2 o2 c2 : Nat) (xs : List Int) (hx : ∀ j, j < xs.length → w.cell? ⟨b1, o1 + j, none⟩ = some (.int .u8 (xs.getD j 0))) (hy : ∀ j, j < xs.length → w.cell? ⟨b2, o2 + j, none⟩ = some (.int .u8 (xs.getD j 0)))
    (hlx : xs.length ≤ 10000000) :
    Calls Try.prog 13 #[.slice (some ⟨b1, o1, none⟩) xs.length c1, .slice (some ⟨b2, o2, none⟩) xs.length c2] w fun e w' => e = .returned (.bool true) ∧ ∃ n, w' = w.drewN n := by
  go_enter Try.func13, Try.ntmps13
  go_wp2_with fail
  go_loopw [5] (fun i wr => ∃ k n : Nat, k ≤ xs.length ∧ i = .int .i64 (k : Int) ∧ wr = w.drewN n) (fun i _ => xs.length - (intOf i).toNat)
  case atStart => exact ⟨0, 0, by omega, rfl, rfl⟩
  case round =>
    obtain ⟨k, n, hk1, rfl, rfl⟩ := hrel
    by_cases h1 : k < xs.length
    · have hcx := hx k h1
      have hcy := hy k h1
      clear hx hy
      generalize xs.getD k 0 = x at hcx hcy
      have hn : (x != x) = false := by simp
      go_wp2_with fail
      go_quiet (fail)
      go_wp2_with fail
      go_roundw
      case rel => exact ⟨k + 1, _, by omega, by go_num, by first | rfl | exact World.drewN_drewN _ _ _⟩
      case measure => simp [intOf]; omega
    · go_wp2_with fail
      go_ret
      exact ⟨rfl, _, rfl⟩

set_option maxHeartbeats 1000000 in
theorem same_empty (w : World) (a1 a2 : Option Addr) (c1 c2 : Nat) :
    Calls Try.prog 13 #[.slice a1 0 c1, .slice a2 0 c2] w fun e w' => e = .returned (.bool true) ∧ ∃ n, w' = w.drewN n := by
  go_enter Try.func13, Try.ntmps13
  go_wp2_with fail
  refine wp_loop_rounds 1 ?_
  rw [rounds_succ]
  go_wp2_with fail
  go_ret
  exact ⟨rfl, 0, rfl⟩

theorem same_any (w : World) (v1 v2 : Value) (xs : List Int) (h1 : Has w v1 xs) (h2 : Has w v2 xs) (hlx : xs.length ≤ 10000000) :
    Calls Try.prog 13 #[v1, v2] w fun e w' => e = .returned (.bool true) ∧ ∃ n, w' = w.drewN n := by
  by_cases hp : 0 < xs.length
  · obtain ⟨b, off, c, rfl, hc⟩ := h1.rowAt hp
    obtain ⟨b2, off2, c2, rfl, hc2⟩ := h2.rowAt hp
    exact same_row w b off c b2 off2 c2 xs hc hc2 hlx
  · have h0 : xs = [] := List.eq_nil_of_length_eq_zero (by omega)
    subst h0
    obtain ⟨ao, c, rfl, _⟩ := h1
    obtain ⟨ao2, c2, rfl, _⟩ := h2
    exact same_empty w ao ao2 c c2

end Go.Proofs.Qxb6601896a

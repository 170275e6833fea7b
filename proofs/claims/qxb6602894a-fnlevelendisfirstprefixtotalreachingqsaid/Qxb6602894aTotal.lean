import Derived.Test.Qxb6602894aProg
import Derived.Test.Qxb6602894aPlain
import Derived.WalkKit
import Derived.WalkSpells
import Derived.WalkLawsBesides
import Derived.ProofKit
namespace Go.Proofs.Qxb6602894a
open Go.RowKit
set_option linter.unusedVariables false

set_option maxHeartbeats 1000000 in
theorem total_off (w : World) (a : Option Addr) (len cap : Nat) (lv left : Int) (h : lv < 0 ∨ (len : Int) ≤ lv) :
    Calls Try.prog 13 #[.slice a len cap, .int .i64 lv, .int .i64 left] w fun e w' => e = .returned (.tuple #[.int .i64 0, .bool false]) ∧ w' = w := by
  rcases h with h | h
  · go_enter Try.func13, Try.ntmps13
    go_wp2_with fail
    go_ret2
    exact ⟨rfl, rfl⟩
  · have h' : ¬ lv < 0 := by omega
    go_enter Try.func13, Try.ntmps13
    go_wp2_with fail
    go_ret2
    exact ⟨rfl, rfl⟩

set_option maxHeartbeats 1000000 in
theorem total_neg (w : World) (a : Option Addr) (len cap : Nat) (lv : Nat) (left : Int) (h : lv < len) (hl : left < 0) :
    Calls Try.prog 13 #[.slice a len cap, .int .i64 (lv : Int), .int .i64 left] w fun e w' => e = .returned (.tuple #[.int .i64 0, .bool false]) ∧ w' = w := by
  go_enter Try.func13, Try.ntmps13
  go_wp2_with fail
  go_ret2
  exact ⟨rfl, rfl⟩

/-- What depthTotal answers. -/
def TotPost (left : Int) (zs : List Int) (lv : Nat) (e : Ending) : Prop :=
  ∃ t ok, e = .returned (.tuple #[.int .i64 t, .bool ok]) ∧ (ok = true → Dom left zs lv ∧ t = tot left zs lv (last zs lv))

theorem totPost_no (left : Int) (zs : List Int) (lv : Nat) (t : Int) : TotPost left zs lv (.returned (.tuple #[.int .i64 t, .bool false])) := ⟨t, false, rfl, fun h => by cases h⟩
theorem totPost_yes {left : Int} {zs : List Int} {lv : Nat} {t : Int} (h : Dom left zs lv ∧ t = tot left zs lv (last zs lv)) : TotPost left zs lv (.returned (.tuple #[.int .i64 t, .bool true])) := ⟨t, true, rfl, fun _ => h⟩

theorem wrap_in (n : Int) (h0 : -9223372036854775808 ≤ n) (h1 : n ≤ 9223372036854775807) : wrap64 n = n := by
  unfold wrap64
  omega

theorem step_ok {T X : Int} (h0 : 0 ≤ T) (hX : 0 < X) (hXm : X ≤ maxI) (h : T ≤ wrap64 (9223372036854775807 - X)) : T + X ≤ maxI ∧ wrap64 (T + X) = T + X := by
  unfold maxI at *
  rw [wrap_in _ (by omega) (by omega)] at h
  exact ⟨by omega, wrap_in _ (by omega) (by omega)⟩

theorem total_round {left : Int} {zs : List Int} {lv i : Nat} {T X : Int} (hlt : lv + (i + 1) < zs.length) (hs : tot left zs lv (i + 1) = T + X) (hx : zs.getD (lv + (i + 1)) 0 = X) (hp : ∀ t, t < i → 0 < zs.getD (lv + (t + 1)) 0) (h0 : 0 ≤ T) (hX : 0 < X) (hXm : X ≤ maxI) (h : T ≤ wrap64 (9223372036854775807 - X)) :
    Value.int .i64 (wrap64 (T + X)) = .int .i64 (tot left zs lv (i + 1)) ∧ (∀ t, t < i + 1 → 0 < zs.getD (lv + (t + 1)) 0) ∧ 0 ≤ tot left zs lv (i + 1) ∧ tot left zs lv (i + 1) ≤ maxI := by
  have h2 := step_ok h0 hX hXm h
  refine ⟨by rw [h2.2, hs], fun t ht => ?_, by rw [hs]; omega, by rw [hs]; exact h2.1⟩
  rcases Nat.lt_or_ge t i with h3 | h3
  · exact hp t h3
  · have : t = i := by omega
    subst this; rw [hx]; exact hX

set_option maxHeartbeats 1000000 in
theorem total_row (w : World) (b off cap lv : Nat) (zs : List Int) (left : Int) (hc : ∀ j, j < zs.length → w.cell? ⟨b, off + j, none⟩ = some (.int .i64 (zs.getD j 0))) (hl : zs.length ≤ 1000000) (hlv : lv < zs.length) (h0 : 0 ≤ left) (hm : left ≤ maxI) (hz : ∀ n ∈ zs, n ≤ maxI) :
    Calls Try.prog 13 #[.slice (some ⟨b, off, none⟩) zs.length cap, .int .i64 (lv : Int), .int .i64 left] w fun e w' => TotPost left zs lv e ∧ w' = w := by
  go_enter Try.func13, Try.ntmps13
  go_wp2_with fail
  go_loop [8, 9] (fun ts js => ∃ i : Nat, lv + i < zs.length ∧ js = .int .i64 ((lv : Int) + 1 + (i : Int)) ∧ ts = .int .i64 (tot left zs lv i) ∧ (∀ t, t < i → 0 < zs.getD (lv + (t + 1)) 0) ∧ 0 ≤ tot left zs lv i ∧ tot left zs lv i ≤ maxI) (fun _ js => zs.length - (intOf js).toNat)
  case atStart => exact ⟨0, by omega, by go_num, rfl, fun t ht => by omega, h0, hm⟩
  case round =>
    obtain ⟨i, hi, rfl, rfl, hpos, ht0, htm⟩ := hrel
    by_cases hlt : lv + (i + 1) < zs.length
    · have hcx : w.cell? ⟨b, off + (lv + 1 + i), none⟩ = some (.int .i64 (zs.getD (lv + (i + 1)) 0)) := by rw [show lv + 1 + i = lv + (i + 1) by omega]; exact hc (lv + (i + 1)) hlt
      have HP : Hid (∀ t, t < i → 0 < zs.getD (lv + (t + 1)) 0) := hpos
      have HM : Hid (tot left zs lv i ≤ maxI) := htm
      have HS : Hid (tot left zs lv (i + 1) = tot left zs lv i + zs.getD (lv + (i + 1)) 0) := rfl
      clear hpos htm hc
      generalize tot left zs lv i = T at ht0 HM HS ⊢
      generalize hX : zs.getD (lv + (i + 1)) 0 = X at hcx HS
      have HX : Hid (zs.getD (lv + (i + 1)) 0 = X) := hX
      have HXM : Hid (X ≤ maxI) := by
        show X ≤ maxI
        rw [← hX]
        have : zs.getD (lv + (i + 1)) 0 = zs[lv + (i + 1)] := by simp [hlt]
        rw [this]
        exact hz _ (List.getElem_mem hlt)
      clear hX
      by_cases hX0 : X ≤ 0
      · go_wp2_with fail
        go_ret2
        exact ⟨totPost_no _ _ _ _, rfl⟩
      · have hX1 : 0 < X := by omega
        clear hX0
        go_wp2_with fail
        · go_ret2
          exact ⟨totPost_no _ _ _ _, rfl⟩
        · have ht : T ≤ wrap64 (9223372036854775807 - X) := by assumption
          have R := total_round hlt HS.out HX.out HP.out ht0 hX1 HXM.out ht
          go_round
          case rel => exact ⟨i + 1, by omega, by go_num, R.1, R.2.1, R.2.2.1, R.2.2.2⟩
          case measure => simp [intOf]; omega
    · have hil : i = last zs lv := by unfold last; omega
      have hD : Dom left zs lv := ⟨hlv, h0, fun t ht => hpos t (by unfold last at hil; omega), by rw [show zs.length - 1 - lv = i by unfold last at hil; omega]; exact htm⟩
      have HD : Hid (Dom left zs lv ∧ tot left zs lv i = tot left zs lv (last zs lv)) := ⟨hD, by rw [← hil]⟩
      clear hD hpos htm
      generalize tot left zs lv i = T at HD ht0 ⊢
      go_wp2_with fail
      go_ret2
      exact ⟨totPost_yes HD.out, rfl⟩

end Go.Proofs.Qxb6602894a

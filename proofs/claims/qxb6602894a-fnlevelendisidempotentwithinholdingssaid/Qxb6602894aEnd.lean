import Derived.Test.Qxb6602894aClone
import Derived.Deep.QuietTactic
import Derived.BigQuiet
namespace Go.Proofs.Qxb6602894a
open Go.RowKit
set_option linter.unusedVariables false

/-- What levelEnd answers. -/
def EndPost (left : Int) (zs : List Int) (lv : Nat) (q : Int) (e : Ending) : Prop := ∃ i, First left zs lv q i ∧ e = .returned (.int .u64 (tot left zs lv i))

theorem wrapU (n : Int) (h0 : 0 ≤ n) (h1 : n ≤ maxI) : IntKind.u64.wrap n = n := by
  unfold maxI at h1
  simp only [IntKind.wrap, IntKind.bits, IntKind.signed]
  simp
  omega

theorem end_grown (w : World) (o : Obj) (n : Nat) : w.grownBy ((w.alloc o).drewN n) none := by
  have h := World.grownBy_alloc w o none
  exact ⟨h.os, h.tape, h.output, h.size, h.block⟩

set_option maxHeartbeats 1000000 in
theorem levelEnd_any (w : World) (sb lb lv : Nat) (zs : List Int) (left q : Int) (hD : Dom left zs lv) (hq0 : 0 < q) (hq1 : q ≤ tot left zs lv (last zs lv)) (hl : zs.length ≤ 1000000)
    (hc0 : w.cell? ⟨sb, 0, none⟩ = some (.slice (some ⟨lb, 0, none⟩) zs.length zs.length)) (hc3 : w.cell? ⟨sb, 3, none⟩ = some (.int .i64 (lv : Int))) (hc4 : w.cell? ⟨sb, 4, none⟩ = some (.int .i64 left))
    (hlc : ∀ j, j < zs.length → w.cell? ⟨lb, j * 2 + 1, none⟩ = some (.int .i64 (zs.getD j 0))) (hsb : sb < w.heap.size) (hlb : lb < w.heap.size) :
    Calls Try.prog 19 #[.pointer (some ⟨sb, 0, none⟩), .agg #[.int .i64 q]] w fun e w' => EndPost left zs lv q e ∧ w.grownBy w' none := by
  have hlv := hD.1
  have h0 := hD.2.1
  have hwl : IntKind.u64.wrap left = left := wrapU left h0 (hD.le_max (i := 0) (by omega))
  have hwq : IntKind.u64.wrap q = q := wrapU q (by omega) (by have := hD.le_max (i := last zs lv) (Nat.le_refl _); omega)
  have HD : Hid (Dom left zs lv) := hD
  have HQ : Hid (q ≤ tot left zs lv (last zs lv)) := hq1
  clear hD hq1
  go_enter Try.func19, Try.ntmps19
  go_wp2_with fail
  go_quiet (fail)
  go_wp2_with fail
  go_loop [5, 6] (fun es ls => ∃ i : Nat, i ≤ last zs lv ∧ ls = .int .i64 ((lv : Int) + (i : Int)) ∧ es = .int .u64 (tot left zs lv i) ∧ ∀ j, j < i → tot left zs lv j < q) (fun _ ls => zs.length - (intOf ls).toNat)
  case atStart => exact ⟨0, by omega, by go_num, rfl, fun j hj => by omega⟩
  case round =>
    obtain ⟨i, hi, rfl, rfl, hb⟩ := hrel
    by_cases hlt : tot left zs lv i < q
    · have hil : i < last zs lv := by
        rcases Nat.lt_or_ge i (last zs lv) with h | h
        · exact h
        · have e : i = last zs lv := by omega
          have := HQ.out
          rw [← e] at this
          omega
      have hin : lv + 1 + i < zs.length := by unfold last at hil; omega
      have hcx : w.cell? ⟨lb, (lv + i + 1) * 2 + 1, none⟩ = some (.int .i64 (zs.getD (lv + (i + 1)) 0)) := hlc (lv + i + 1) (by omega)
      have HS : Hid (tot left zs lv (i + 1) = tot left zs lv i + zs.getD (lv + (i + 1)) 0) := rfl
      have hn1 := HD.out.nonneg (i := i + 1) (by omega)
      have hm1 := HD.out.le_max (i := i + 1) (by omega)
      have hn0 := HD.out.nonneg (i := i) (by omega)
      have hst := HD.out.step hil
      have HB : Hid (∀ j, j < i + 1 → tot left zs lv j < q) := by
        intro j hj
        rcases Nat.lt_or_ge j i with h | h
        · exact hb j h
        · have e : j = i := by omega
          rw [e]; exact hlt
      have hX0 : 0 < zs.getD (lv + (i + 1)) 0 := by have := HS.out; omega
      have hXm : zs.getD (lv + (i + 1)) 0 ≤ maxI := by have := HS.out; omega
      have hwx : IntKind.u64.wrap (zs.getD (lv + (i + 1)) 0) = zs.getD (lv + (i + 1)) 0 := wrapU _ (by omega) hXm
      have hws : IntKind.u64.wrap (tot left zs lv i + zs.getD (lv + (i + 1)) 0) = tot left zs lv i + zs.getD (lv + (i + 1)) 0 := wrapU _ (by omega) (by have := HS.out; omega)
      clear hb hn1 hm1 hst hXm hil hlc
      generalize tot left zs lv i = T at hlt HS hn0 hws ⊢
      generalize zs.getD (lv + (i + 1)) 0 = X at hcx HS hX0 hwx hws
      go_wp2_with fail
      go_round
      case rel => exact ⟨i + 1, by unfold last at *; omega, by go_num, by rw [HS.out], HB.out⟩
      case measure => simp [intOf]; omega
    · have HF : Hid (First left zs lv q i) := ⟨hi, by omega, hb⟩
      clear hb
      generalize hT : tot left zs lv i = T at hlt ⊢
      have HT : Hid (tot left zs lv i = T) := hT
      clear hT
      go_wp2_with fail
      go_ret
      exact ⟨⟨i, HF.out, by rw [HT.out]; rfl⟩, end_grown _ _ _⟩

end Go.Proofs.Qxb6602894a

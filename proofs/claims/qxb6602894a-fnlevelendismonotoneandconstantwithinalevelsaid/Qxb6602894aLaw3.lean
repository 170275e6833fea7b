import Derived.Test.Qxb6602894aZZ
import Derived.OpenShut
namespace Go.Proofs.Qxb6602894a.law3
open Go.RowKit Go.Proofs.Qxb6602894a
set_option linter.unusedVariables false

set_option maxHeartbeats 400000 in
theorem zzbytes_yes (w : World) (a : Option Addr) (len cap : Nat) (lv left q1 q2 : Int) (hl : len ≤ 1048576) :
    Calls Try.prog 17 #[.slice a len cap, .int .i64 lv, .int .i64 left, .int .i64 q1, .int .i64 q2] w fun e w' => e = .returned (.bool true) ∧ w' = w := by
  go_enter Try.func17, Try.ntmps17
  go_wp2_with fail
  go_ret
  exact ⟨rfl, rfl⟩

set_option maxHeartbeats 400000 in
theorem zzbytes_no (w : World) (a : Option Addr) (len cap : Nat) (lv left q1 q2 : Int) (hl : 1048576 < len) (hm : len ≤ 9223372036854775807) :
    Calls Try.prog 17 #[.slice a len cap, .int .i64 lv, .int .i64 left, .int .i64 q1, .int .i64 q2] w fun e w' => e = .returned (.bool false) ∧ w' = w := by
  go_enter Try.func17, Try.ntmps17
  go_wp2_with fail
  go_ret
  exact ⟨rfl, rfl⟩

set_option maxHeartbeats 1000000 in
theorem walk_long (w : World) (a : Option Addr) (len cap : Nat) (lv left q1 q2 : Int) (hl : 1048576 < len) (hm : len ≤ 9223372036854775807) :
    Calls Try.prog 7 #[.slice a len cap, .int .i64 lv, .int .i64 left, .int .i64 q1, .int .i64 q2] w fun e w' => e = .returned (.bool true) ∧ Below w.heap.size w w' := by
  go_enter Try.func7, Try.ntmps7
  go_wp2_with fail
  refine (zzbytes_no w a len cap lv left q1 q2 hl hm).mono ?_
  rintro e w1 ⟨rfl, hw1⟩
  obtain rfl := hw1.symm
  go_wp2_with fail
  go_ret
  exact ⟨rfl, Below.refl _ _⟩

set_option maxHeartbeats 1000000 in
theorem walk_mid (w : World) (a : Option Addr) (len cap : Nat) (lv left q1 q2 : Int) (hl : len ≤ 1048576) (hm : 65536 < len) :
    Calls Try.prog 7 #[.slice a len cap, .int .i64 lv, .int .i64 left, .int .i64 q1, .int .i64 q2] w fun e w' => e = .returned (.bool true) ∧ Below w.heap.size w w' := by
  go_enter Try.func7, Try.ntmps7
  go_wp2_with fail
  refine (zzbytes_yes w a len cap lv left q1 q2 hl).mono ?_
  rintro e w1 ⟨rfl, hw1⟩
  obtain rfl := hw1.symm
  go_wp2_with fail
  go_ret
  exact ⟨rfl, Below.refl _ _⟩

set_option maxHeartbeats 1000000 in
theorem walk_off (w : World) (a : Option Addr) (len cap : Nat) (lv left q1 q2 : Int) (hl : len ≤ 65536) (h : lv < 0 ∨ (len : Int) ≤ lv) :
    Calls Try.prog 7 #[.slice a len cap, .int .i64 lv, .int .i64 left, .int .i64 q1, .int .i64 q2] w fun e w' => e = .returned (.bool true) ∧ Below w.heap.size w w' := by
  go_enter Try.func7, Try.ntmps7
  go_wp2_with fail
  refine (zzbytes_yes w a len cap lv left q1 q2 (by omega)).mono ?_
  rintro e w1 ⟨rfl, hw1⟩
  obtain rfl := hw1.symm
  go_wp2_with fail
  refine (total_off w a len cap lv left h).mono ?_
  rintro e w1 ⟨rfl, hw1⟩
  obtain rfl := hw1.symm
  clear h
  go_wp2_with fail
  go_ret
  exact ⟨rfl, Below.refl _ _⟩

set_option maxHeartbeats 1000000 in
theorem walk_neg (w : World) (a : Option Addr) (len cap lv : Nat) (left q1 q2 : Int) (hl : len ≤ 65536) (h : lv < len) (hn : left < 0) :
    Calls Try.prog 7 #[.slice a len cap, .int .i64 (lv : Int), .int .i64 left, .int .i64 q1, .int .i64 q2] w fun e w' => e = .returned (.bool true) ∧ Below w.heap.size w w' := by
  go_enter Try.func7, Try.ntmps7
  go_wp2_with fail
  refine (zzbytes_yes w a len cap lv left q1 q2 (by omega)).mono ?_
  rintro e w1 ⟨rfl, hw1⟩
  obtain rfl := hw1.symm
  go_wp2_with fail
  refine (total_neg w a len cap lv left h hn).mono ?_
  rintro e w1 ⟨rfl, hw1⟩
  obtain rfl := hw1.symm
  go_wp2_with fail
  go_ret
  exact ⟨rfl, Below.refl _ _⟩

set_option maxRecDepth 100000 in
set_option maxHeartbeats 2000000 in
theorem walk_row (w : World) (b off cap lv : Nat) (zs : List Int) (left q1 q2 : Int) (hc : ∀ j, j < zs.length → w.cell? ⟨b, off + j, none⟩ = some (.int .i64 (zs.getD j 0))) (hl : zs.length ≤ 65536) (hlv : lv < zs.length) (h0 : 0 ≤ left) (hm : left ≤ maxI) (hz : ∀ n ∈ zs, n ≤ maxI) :
    Calls Try.prog 7 #[.slice (some ⟨b, off, none⟩) zs.length cap, .int .i64 (lv : Int), .int .i64 left, .int .i64 q1, .int .i64 q2] w fun e w' => e = .returned (.bool true) ∧ Below w.heap.size w w' := by
  go_enter Try.func7, Try.ntmps7
  go_wp2_with fail
  refine (zzbytes_yes w _ zs.length cap lv left q1 q2 (by omega)).mono ?_
  rintro e w1 ⟨rfl, hw1⟩
  obtain rfl := hw1.symm
  go_wp2_with fail
  refine (total_row w b off cap lv zs left hc (by omega) hlv h0 hm hz).mono ?_
  rintro e w1 ⟨⟨t, ok, rfl, hok⟩, hw1⟩
  obtain rfl := hw1.symm
  cases ok with
  | false =>
    clear hok
    go_wp2_with fail
    go_ret
    exact ⟨rfl, Below.refl _ _⟩
  | true =>
    obtain ⟨hD, ht⟩ := hok rfl
    have HT : Hid (t = tot left zs lv (last zs lv)) := ht
    have HD : Hid (Dom left zs lv) := hD
    clear hok hD ht
    by_cases hx4 : q1 ≤ 0
    · go_wp2_with fail
      go_ret
      exact ⟨rfl, Below.refl _ _⟩
    · have hy4 : 0 < q1 := by omega
      clear hx4
      by_cases hx6 : t < q1
      · go_wp2_with fail
        go_ret
        exact ⟨rfl, Below.refl _ _⟩
      · have hy6 : q1 ≤ t := by omega
        clear hx6
        by_cases hx8 : q2 ≤ 0
        · go_wp2_with fail
          go_ret
          exact ⟨rfl, Below.refl _ _⟩
        · have hy8 : 0 < q2 := by omega
          clear hx8
          by_cases hx10 : t < q2
          · go_wp2_with fail
            go_ret
            exact ⟨rfl, Below.refl _ _⟩
          · have hy10 : q2 ≤ t := by omega
            clear hx10
            go_wp2_with fail
            refine (clone_row w b off cap zs hc (by omega)).mono ?_
            rintro e w1 ⟨rfl, hr1, hg1⟩
            have HC : Hid (∀ j, j < zs.length → w1.cell? ⟨w.heap.size, j, none⟩ = some (.int .i64 (zs.getD j 0))) := fun j hj => hr1.cell j hj
            clear hc hr1 hz
            by_cases hsw : q2 < q1
            · go_wp2_with fail
              refine (zz_any w1 w.heap.size lv zs left q2 zs.length HD.out hy8 (by have := HT.out; omega) (by omega) HC.out).mono ?_
              rintro e w2 ⟨⟨i, hF, rfl⟩, hg2⟩
              have HC2 : Hid (∀ j, j < zs.length → w2.cell? ⟨w.heap.size, j, none⟩ = some (.int .i64 (zs.getD j 0))) := fun j hj => hg2.cell (HC.out j hj) (by simp)
              have HF : Hid (First left zs lv q2 i) := hF
              clear hF
              go_wp2_with fail
              refine (zz_any w2 w.heap.size lv zs left q1 zs.length HD.out hy4 (by have := HT.out; omega) (by omega) HC2.out).mono ?_
              rintro e w3 ⟨⟨j, hF2, rfl⟩, hg3⟩
              have HB : Hid (Below w.heap.size w w3) := ((grown_below hg1).trans ((grown_below hg2).mono hg1.size)).trans ((grown_below hg3).mono (Nat.le_trans hg1.size hg2.size))
              have hwq : IntKind.u64.wrap q1 = q1 := wrapU q1 (by omega) (by have := HD.out.le_max (i := last zs lv) (Nat.le_refl _); have := HT.out; omega)
              by_cases hin : q1 ≤ tot left zs lv i
              · have hij := First.within HF.out hF2 (by omega) hin
                subst hij
                clear hF2 hg1 hg2 hg3
                generalize tot left zs lv i = T at hin ⊢
                have hTT : (T != T) = false := by simp
                have hdd : decide (q1 ≤ T) = true := by rw [decide_eq_true_eq]; exact hin
                have hdn : decide (T < q1) = false := by rw [decide_eq_false_iff_not]; omega
                go_wp2_with fail
                go_ret
                exact ⟨rfl, HB.out⟩
              · have hpast := First.past hF2 (i := i) (by omega)
                clear hF2 hg1 hg2 hg3
                generalize tot left zs lv i = T at hin hpast ⊢
                generalize tot left zs lv j = U at hpast ⊢
                have hdd : decide (q1 ≤ T) = false := by rw [decide_eq_false_iff_not]; omega
                have hdn : decide (T < q1) = true := by rw [decide_eq_true_eq]; omega
                go_wp2_with fail
                go_ret
                exact ⟨rfl, HB.out⟩
            · go_wp2_with fail
              refine (zz_any w1 w.heap.size lv zs left q1 zs.length HD.out hy4 (by have := HT.out; omega) (by omega) HC.out).mono ?_
              rintro e w2 ⟨⟨i, hF, rfl⟩, hg2⟩
              have HC2 : Hid (∀ j, j < zs.length → w2.cell? ⟨w.heap.size, j, none⟩ = some (.int .i64 (zs.getD j 0))) := fun j hj => hg2.cell (HC.out j hj) (by simp)
              have HF : Hid (First left zs lv q1 i) := hF
              clear hF
              go_wp2_with fail
              refine (zz_any w2 w.heap.size lv zs left q2 zs.length HD.out hy8 (by have := HT.out; omega) (by omega) HC2.out).mono ?_
              rintro e w3 ⟨⟨j, hF2, rfl⟩, hg3⟩
              have HB : Hid (Below w.heap.size w w3) := ((grown_below hg1).trans ((grown_below hg2).mono hg1.size)).trans ((grown_below hg3).mono (Nat.le_trans hg1.size hg2.size))
              have hwq : IntKind.u64.wrap q2 = q2 := wrapU q2 (by omega) (by have := HD.out.le_max (i := last zs lv) (Nat.le_refl _); have := HT.out; omega)
              by_cases hin : q2 ≤ tot left zs lv i
              · have hij := First.within HF.out hF2 (by omega) hin
                subst hij
                clear hF2 hg1 hg2 hg3
                generalize tot left zs lv i = T at hin ⊢
                have hTT : (T != T) = false := by simp
                have hdd : decide (q2 ≤ T) = true := by rw [decide_eq_true_eq]; exact hin
                have hdn : decide (T < q2) = false := by rw [decide_eq_false_iff_not]; omega
                go_wp2_with fail
                go_ret
                exact ⟨rfl, HB.out⟩
              · have hpast := First.past hF2 (i := i) (by omega)
                clear hF2 hg1 hg2 hg3
                generalize tot left zs lv i = T at hin hpast ⊢
                generalize tot left zs lv j = U at hpast ⊢
                have hdd : decide (q2 ≤ T) = false := by rw [decide_eq_false_iff_not]; omega
                have hdn : decide (T < q2) = true := by rw [decide_eq_true_eq]; omega
                go_wp2_with fail
                go_ret
                exact ⟨rfl, HB.out⟩


end Go.Proofs.Qxb6602894a.law3

import Derived.Test.Qxb6602894aZZ
import Derived.OpenShut
namespace Go.Proofs.Qxb6602894a.law2
open Go.RowKit Go.Proofs.Qxb6602894a
set_option linter.unusedVariables false

set_option maxHeartbeats 400000 in
theorem zzbytes_yes (w : World) (a : Option Addr) (len cap : Nat) (lv left q : Int) (hl : len ≤ 1048576) :
    Calls Try.prog 16 #[.slice a len cap, .int .i64 lv, .int .i64 left, .int .i64 q] w fun e w' => e = .returned (.bool true) ∧ w' = w := by
  go_enter Try.func16, Try.ntmps16
  go_wp2_with fail
  go_ret
  exact ⟨rfl, rfl⟩

set_option maxHeartbeats 400000 in
theorem zzbytes_no (w : World) (a : Option Addr) (len cap : Nat) (lv left q : Int) (hl : 1048576 < len) (hm : len ≤ 9223372036854775807) :
    Calls Try.prog 16 #[.slice a len cap, .int .i64 lv, .int .i64 left, .int .i64 q] w fun e w' => e = .returned (.bool false) ∧ w' = w := by
  go_enter Try.func16, Try.ntmps16
  go_wp2_with fail
  go_ret
  exact ⟨rfl, rfl⟩

set_option maxHeartbeats 1000000 in
theorem walk_long (w : World) (a : Option Addr) (len cap : Nat) (lv left q : Int) (hl : 1048576 < len) (hm : len ≤ 9223372036854775807) :
    Calls Try.prog 6 #[.slice a len cap, .int .i64 lv, .int .i64 left, .int .i64 q] w fun e w' => e = .returned (.bool true) ∧ Below w.heap.size w w' := by
  go_enter Try.func6, Try.ntmps6
  go_wp2_with fail
  refine (zzbytes_no w a len cap lv left q hl hm).mono ?_
  rintro e w1 ⟨rfl, hw1⟩
  obtain rfl := hw1.symm
  go_wp2_with fail
  go_ret
  exact ⟨rfl, Below.refl _ _⟩

set_option maxHeartbeats 1000000 in
theorem walk_mid (w : World) (a : Option Addr) (len cap : Nat) (lv left q : Int) (hl : len ≤ 1048576) (hm : 65536 < len) :
    Calls Try.prog 6 #[.slice a len cap, .int .i64 lv, .int .i64 left, .int .i64 q] w fun e w' => e = .returned (.bool true) ∧ Below w.heap.size w w' := by
  go_enter Try.func6, Try.ntmps6
  go_wp2_with fail
  refine (zzbytes_yes w a len cap lv left q hl).mono ?_
  rintro e w1 ⟨rfl, hw1⟩
  obtain rfl := hw1.symm
  go_wp2_with fail
  go_ret
  exact ⟨rfl, Below.refl _ _⟩

set_option maxHeartbeats 1000000 in
theorem walk_off (w : World) (a : Option Addr) (len cap : Nat) (lv left q : Int) (hl : len ≤ 65536) (h : lv < 0 ∨ (len : Int) ≤ lv) :
    Calls Try.prog 6 #[.slice a len cap, .int .i64 lv, .int .i64 left, .int .i64 q] w fun e w' => e = .returned (.bool true) ∧ Below w.heap.size w w' := by
  go_enter Try.func6, Try.ntmps6
  go_wp2_with fail
  refine (zzbytes_yes w a len cap lv left q (by omega)).mono ?_
  rintro e w1 ⟨rfl, hw1⟩
  obtain rfl := hw1.symm
  go_wp2_with fail
  refine (total_off w a len cap lv left h).mono ?_
  rintro e w1 ⟨rfl, hw1⟩
  obtain rfl := hw1.symm
  clear h
  go_wp2_with fail
  go_ret
  exact ⟨rfl, Below.refl _ _⟩

set_option maxHeartbeats 1000000 in
theorem walk_neg (w : World) (a : Option Addr) (len cap lv : Nat) (left q : Int) (hl : len ≤ 65536) (h : lv < len) (hn : left < 0) :
    Calls Try.prog 6 #[.slice a len cap, .int .i64 (lv : Int), .int .i64 left, .int .i64 q] w fun e w' => e = .returned (.bool true) ∧ Below w.heap.size w w' := by
  go_enter Try.func6, Try.ntmps6
  go_wp2_with fail
  refine (zzbytes_yes w a len cap lv left q (by omega)).mono ?_
  rintro e w1 ⟨rfl, hw1⟩
  obtain rfl := hw1.symm
  go_wp2_with fail
  refine (total_neg w a len cap lv left h hn).mono ?_
  rintro e w1 ⟨rfl, hw1⟩
  obtain rfl := hw1.symm
  go_wp2_with fail
  go_ret
  exact ⟨rfl, Below.refl _ _⟩

set_option maxRecDepth 100000 in
set_option maxHeartbeats 2000000 in
theorem walk_row (w : World) (b off cap lv : Nat) (zs : List Int) (left q : Int) (hc : ∀ j, j < zs.length → w.cell? ⟨b, off + j, none⟩ = some (.int .i64 (zs.getD j 0))) (hl : zs.length ≤ 65536) (hlv : lv < zs.length) (h0 : 0 ≤ left) (hm : left ≤ maxI) (hz : ∀ n ∈ zs, n ≤ maxI) :
    Calls Try.prog 6 #[.slice (some ⟨b, off, none⟩) zs.length cap, .int .i64 (lv : Int), .int .i64 left, .int .i64 q] w fun e w' => e = .returned (.bool true) ∧ Below w.heap.size w w' := by
  go_enter Try.func6, Try.ntmps6
  go_wp2_with fail
  refine (zzbytes_yes w _ zs.length cap lv left q (by omega)).mono ?_
  rintro e w1 ⟨rfl, hw1⟩
  obtain rfl := hw1.symm
  go_wp2_with fail
  refine (total_row w b off cap lv zs left hc (by omega) hlv h0 hm hz).mono ?_
  rintro e w1 ⟨⟨t, ok, rfl, hok⟩, hw1⟩
  obtain rfl := hw1.symm
  cases ok with
  | false =>
    clear hok
    go_wp2_with fail
    go_ret
    exact ⟨rfl, Below.refl _ _⟩
  | true =>
    obtain ⟨hD, ht⟩ := hok rfl
    have HT : Hid (t = tot left zs lv (last zs lv)) := ht
    have HD : Hid (Dom left zs lv) := hD
    clear hok hD ht
    by_cases hx4 : q ≤ 0
    · go_wp2_with fail
      go_ret
      exact ⟨rfl, Below.refl _ _⟩
    · have hy4 : 0 < q := by omega
      clear hx4
      by_cases hx6 : t < q
      · go_wp2_with fail
        go_ret
        exact ⟨rfl, Below.refl _ _⟩
      · have hy6 : q ≤ t := by omega
        clear hx6
        have hD := HD.out
        have hq1 : q ≤ tot left zs lv (last zs lv) := by have := HT.out; omega
        go_wp2_with fail
        refine (clone_row w b off cap zs hc (by omega)).mono ?_
        rintro e w1 ⟨rfl, hr1, hg1⟩
        have hc1 := fun j hj => hr1.cell j hj
        have HC : Hid (∀ j, j < zs.length → w1.cell? ⟨w.heap.size, j, none⟩ = some (.int .i64 (zs.getD j 0))) := hc1
        clear hc1 hc hr1
        go_wp2_with fail
        refine (zz_any w1 w.heap.size lv zs left q zs.length hD hy4 hq1 (by omega) HC.out).mono ?_
        rintro e w2 ⟨⟨i, hF, rfl⟩, hg2⟩
        have hT0 := hD.nonneg hF.1
        have hTm := hD.le_max hF.1
        have hTl := hD.mono hF.1 (Nat.le_refl _)
        have hTq := hF.2.1
        have hwq : IntKind.u64.wrap q = q := wrapU q (by omega) (by omega)
        have hwt : IntKind.u64.wrap t = t := wrapU t (by have := HT.out; omega) (by have := hD.le_max (i := last zs lv) (Nat.le_refl _); have := HT.out; omega)
        have hTt : tot left zs lv i ≤ t := by have := HT.out; omega
        have HF : Hid (First left zs lv q i) := hF
        have HW : Hid (wrap64 (tot left zs lv i) = tot left zs lv i) := wrap_in _ (by omega) (by unfold maxI at hTm; exact hTm)
        have hC2 : ∀ j, j < zs.length → w2.cell? ⟨w.heap.size, j, none⟩ = some (.int .i64 (zs.getD j 0)) := fun j hj => hg2.cell (HC.out j hj) (by simp)
        have HC2 : Hid (∀ j, j < zs.length → w2.cell? ⟨w.heap.size, j, none⟩ = some (.int .i64 (zs.getD j 0))) := hC2
        have HS : Hid (0 < tot left zs lv i ∧ tot left zs lv i ≤ tot left zs lv (last zs lv)) := ⟨by omega, hTl⟩
        clear hF hC2 hTm hq1 hTl hD hz
        generalize hT : tot left zs lv i = T at hT0 hTq hTt HW HS ⊢
        have HTT : Hid (tot left zs lv i = T) := hT
        clear hT
        go_wp2_with fail
        rw [HW.out]
        refine (zz_any w2 w.heap.size lv zs left T zs.length HD.out HS.out.1 HS.out.2 (by omega) HC2.out).mono ?_
        rintro e w3 ⟨⟨j, hF2, rfl⟩, hg3⟩
        have hij : j = i := by
          have h1 := First.self HD.out (i := i) HF.out.1
          rw [HTT.out] at h1
          exact hF2.unique h1
        rw [hij, HTT.out]
        have hTT : (T == T) = true := by simp
        clear hF2 hij
        go_wp2_with fail
        go_ret
        exact ⟨rfl, ((grown_below hg1).trans ((grown_below hg2).mono hg1.size)).trans ((grown_below hg3).mono (Nat.le_trans hg1.size hg2.size))⟩


end Go.Proofs.Qxb6602894a.law2

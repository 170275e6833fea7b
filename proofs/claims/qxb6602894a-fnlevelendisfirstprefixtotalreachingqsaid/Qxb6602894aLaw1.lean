import Derived.Test.Qxb6602894aZZ
import Derived.OpenShut
import Derived.BigRegion
import Derived.Deep.RegionHeld3
namespace Go.Proofs.Qxb6602894a.law1
open Go.RowKit Go.Proofs.Qxb6602894a
set_option linter.unusedVariables false

/-- The running totals' row: of its m cells the first k are reckoned. -/
def Pre (w : World) (base g m k : Nat) (left : Int) (zs : List Int) (lv : Nat) : Prop :=
  ∃ L : List Int, Row w base g L ∧ L.length = m ∧ ∀ j, j < k → L.getD j 0 = tot left zs lv j

theorem Pre.cell {w : World} {base g m k : Nat} {left : Int} {zs : List Int} {lv : Nat} (h : Pre w base g m k left zs lv) (j : Nat) (hj : j < k) (hm : j < m) : w.cell? ⟨g, j, none⟩ = some (.int .i64 (tot left zs lv j)) := by
  obtain ⟨L, hL, hl, hk⟩ := h
  rw [hL.cell j (by omega), hk j hj]

theorem Pre.there {w : World} {base g m k : Nat} {left : Int} {zs : List Int} {lv : Nat} (h : Pre w base g m k left zs lv) (j : Nat) (hm : j < m) : ∃ Y, w.cell? ⟨g, j, none⟩ = some (.int .i64 Y) := by
  obtain ⟨L, hL, hl, hk⟩ := h
  exact ⟨_, hL.cell j (by omega)⟩

theorem Pre.free {w : World} {base g m k : Nat} {left : Int} {zs : List Int} {lv : Nat} (h : Pre w base g m k left zs lv) (j : Nat) : w.frozen? ⟨g, j, none⟩ = false := by
  obtain ⟨L, hL, hl, hk⟩ := h
  exact (hL.store j).1

theorem Pre.next {w : World} {base g m k : Nat} {left : Int} {zs : List Int} {lv : Nat} (h : Pre w base g m k left zs lv) (hm : k < m) :
    Pre (w.setCell ⟨g, k, none⟩ (.int .i64 (tot left zs lv k))) base g m (k + 1) left zs lv ∧ w.grownBy (w.setCell ⟨g, k, none⟩ (.int .i64 (tot left zs lv k))) (some g) := by
  obtain ⟨L, hL, hl, hk⟩ := h
  have hs := (hL.store k).2 (tot left zs lv k)
  refine ⟨⟨_, hs.1, by rw [List.length_set]; exact hl, fun j hj => ?_⟩, hs.2⟩
  rcases Nat.lt_or_ge j k with h | h
  · rw [List.getD_eq_getElem?_getD, List.getElem?_set_ne (by omega), ← List.getD_eq_getElem?_getD]
    exact hk j h
  · have e : j = k := by omega
    subst e
    rw [List.getD_eq_getElem?_getD, List.getElem?_set_self (by omega)]
    rfl

theorem Pre.kept {w w' : World} {base g m k : Nat} {left : Int} {zs : List Int} {lv : Nat} {row : Option Nat} (h : Pre w base g m k left zs lv) (hg : w.grownBy w' row) (hne : some g ≠ row) : Pre w' base g m k left zs lv := by
  obtain ⟨L, hL, hl, hk⟩ := h
  exact ⟨L, hL.kept hg hne, hl, hk⟩

theorem Pre.drew {w : World} {base g m k : Nat} {left : Int} {zs : List Int} {lv : Nat} (h : Pre w base g m k left zs lv) : Pre w.drew base g m k left zs lv := h

theorem grown_drew {a b : World} {r : Option Nat} (h : a.grownBy b r) : a.grownBy b.drew r := ⟨h.os, h.tape, h.output, h.size, h.block⟩

theorem pre_start {w1 w2 : World} {m : Nat} {left : Int} {zs : List Int} {lv : Nat} (hr : Row w2 w1.heap.size w1.heap.size (List.replicate m 0)) (hg : w1.grownBy w2 none) (hm : 1 ≤ m) :
    Pre (w2.setCell ⟨w1.heap.size, 0, none⟩ (.int .i64 left)) w1.heap.size w1.heap.size m 1 left zs lv ∧ w1.grownBy (w2.setCell ⟨w1.heap.size, 0, none⟩ (.int .i64 left)) none := by
  have h0 : Pre w2 w1.heap.size w1.heap.size m 0 left zs lv := ⟨_, hr, by simp, fun j hj => by omega⟩
  have h1 := h0.next (by omega)
  exact ⟨h1.1, grownBy_trans hg h1.2 (fun k hk => .inr (by cases hk; exact Nat.le_refl _))⟩

set_option maxHeartbeats 400000 in
theorem zzbytes_yes (w : World) (a : Option Addr) (len cap : Nat) (lv left q : Int) (hl : len ≤ 1048576) :
    Calls Try.prog 12 #[.slice a len cap, .int .i64 lv, .int .i64 left, .int .i64 q] w fun e w' => e = .returned (.bool true) ∧ w' = w := by
  go_enter Try.func12, Try.ntmps12
  go_wp2_with fail
  go_ret
  exact ⟨rfl, rfl⟩

set_option maxHeartbeats 400000 in
theorem zzbytes_no (w : World) (a : Option Addr) (len cap : Nat) (lv left q : Int) (hl : 1048576 < len) (hm : len ≤ 9223372036854775807) :
    Calls Try.prog 12 #[.slice a len cap, .int .i64 lv, .int .i64 left, .int .i64 q] w fun e w' => e = .returned (.bool false) ∧ w' = w := by
  go_enter Try.func12, Try.ntmps12
  go_wp2_with fail
  go_ret
  exact ⟨rfl, rfl⟩

set_option maxHeartbeats 1000000 in
theorem walk_long (w : World) (a : Option Addr) (len cap : Nat) (lv left q : Int) (hl : 1048576 < len) (hm : len ≤ 9223372036854775807) :
    Calls Try.prog 5 #[.slice a len cap, .int .i64 lv, .int .i64 left, .int .i64 q] w fun e w' => e = .returned (.bool true) ∧ Below w.heap.size w w' := by
  go_enter Try.func5, Try.ntmps5
  go_wp2_with fail
  refine (zzbytes_no w a len cap lv left q hl hm).mono ?_
  rintro e w1 ⟨rfl, hw1⟩
  obtain rfl := hw1.symm
  go_wp2_with fail
  go_ret
  exact ⟨rfl, Below.refl _ _⟩

set_option maxHeartbeats 1000000 in
theorem walk_mid (w : World) (a : Option Addr) (len cap : Nat) (lv left q : Int) (hl : len ≤ 1048576) (hm : 65536 < len) :
    Calls Try.prog 5 #[.slice a len cap, .int .i64 lv, .int .i64 left, .int .i64 q] w fun e w' => e = .returned (.bool true) ∧ Below w.heap.size w w' := by
  go_enter Try.func5, Try.ntmps5
  go_wp2_with fail
  refine (zzbytes_yes w a len cap lv left q hl).mono ?_
  rintro e w1 ⟨rfl, hw1⟩
  obtain rfl := hw1.symm
  go_wp2_with fail
  go_ret
  exact ⟨rfl, Below.refl _ _⟩

set_option maxHeartbeats 1000000 in
theorem walk_off (w : World) (a : Option Addr) (len cap : Nat) (lv left q : Int) (hl : len ≤ 65536) (h : lv < 0 ∨ (len : Int) ≤ lv) :
    Calls Try.prog 5 #[.slice a len cap, .int .i64 lv, .int .i64 left, .int .i64 q] w fun e w' => e = .returned (.bool true) ∧ Below w.heap.size w w' := by
  go_enter Try.func5, Try.ntmps5
  go_wp2_with fail
  refine (zzbytes_yes w a len cap lv left q (by omega)).mono ?_
  rintro e w1 ⟨rfl, hw1⟩
  obtain rfl := hw1.symm
  go_wp2_with fail
  refine (total_off w a len cap lv left h).mono ?_
  rintro e w1 ⟨rfl, hw1⟩
  obtain rfl := hw1.symm
  clear h
  go_wp2_with fail
  go_ret
  exact ⟨rfl, Below.refl _ _⟩

set_option maxHeartbeats 1000000 in
theorem walk_neg (w : World) (a : Option Addr) (len cap lv : Nat) (left q : Int) (hl : len ≤ 65536) (h : lv < len) (hn : left < 0) :
    Calls Try.prog 5 #[.slice a len cap, .int .i64 (lv : Int), .int .i64 left, .int .i64 q] w fun e w' => e = .returned (.bool true) ∧ Below w.heap.size w w' := by
  go_enter Try.func5, Try.ntmps5
  go_wp2_with fail
  refine (zzbytes_yes w a len cap lv left q (by omega)).mono ?_
  rintro e w1 ⟨rfl, hw1⟩
  obtain rfl := hw1.symm
  go_wp2_with fail
  refine (total_neg w a len cap lv left h hn).mono ?_
  rintro e w1 ⟨rfl, hw1⟩
  obtain rfl := hw1.symm
  go_wp2_with fail
  go_ret
  exact ⟨rfl, Below.refl _ _⟩

set_option maxRecDepth 100000 in
set_option maxHeartbeats 2000000 in
theorem walk_row (w : World) (b off cap lv : Nat) (zs : List Int) (left q : Int) (hc : ∀ j, j < zs.length → w.cell? ⟨b, off + j, none⟩ = some (.int .i64 (zs.getD j 0))) (hl : zs.length ≤ 65536) (hlv : lv < zs.length) (h0 : 0 ≤ left) (hm : left ≤ maxI) (hz : ∀ n ∈ zs, n ≤ maxI) :
    Calls Try.prog 5 #[.slice (some ⟨b, off, none⟩) zs.length cap, .int .i64 (lv : Int), .int .i64 left, .int .i64 q] w fun e w' => e = .returned (.bool true) ∧ Below w.heap.size w w' := by
  go_enter Try.func5, Try.ntmps5
  go_wp2_with fail
  refine (zzbytes_yes w _ zs.length cap lv left q (by omega)).mono ?_
  rintro e w1 ⟨rfl, hw1⟩
  obtain rfl := hw1.symm
  go_wp2_with fail
  refine (total_row w b off cap lv zs left hc (by omega) hlv h0 hm hz).mono ?_
  rintro e w1 ⟨⟨t, ok, rfl, hok⟩, hw1⟩
  obtain rfl := hw1.symm
  cases ok with
  | false =>
    clear hok
    go_wp2_with fail
    go_ret
    exact ⟨rfl, Below.refl _ _⟩
  | true =>
    obtain ⟨hD, ht⟩ := hok rfl
    have HT : Hid (t = tot left zs lv (last zs lv)) := ht
    have HD : Hid (Dom left zs lv) := hD
    clear hok hD ht
    by_cases hx4 : q ≤ 0
    · go_wp2_with fail
      go_ret
      exact ⟨rfl, Below.refl _ _⟩
    · have hy4 : 0 < q := by omega
      clear hx4
      by_cases hx6 : t < q
      · go_wp2_with fail
        go_ret
        exact ⟨rfl, Below.refl _ _⟩
      · have hy6 : q ≤ t := by omega
        clear hx6
        have hD := HD.out
        have hq1 : q ≤ tot left zs lv (last zs lv) := by have := HT.out; omega
        have HQ1 : Hid (q ≤ tot left zs lv (last zs lv)) := hq1
        clear hq1
        obtain ⟨m, hm'⟩ : ∃ m, m = zs.length - lv := ⟨_, rfl⟩
        have hmI : (zs.length : Int) - (lv : Int) = (m : Int) := by omega
        have hm1 : 1 ≤ m := by omega
        have hml : m ≤ 65536 := by omega
        have HM : Hid (last zs lv = m - 1) := by show last zs lv = m - 1; unfold last; omega
        have HM2 : Hid (lv + m = zs.length) := by show lv + m = zs.length; omega
        clear hm'
        go_wp2_with fail
        refine (clone_row w b off cap zs hc (by omega)).mono ?_
        rintro e w1 ⟨rfl, hr1, hg1⟩
        have HC : Hid (∀ j, j < zs.length → w1.cell? ⟨w.heap.size, j, none⟩ = some (.int .i64 (zs.getD j 0))) := fun j hj => hr1.cell j hj
        have hsz1 : w.heap.size < w1.heap.size := hr1.lt.2
        have HR : Hid (Row w1 w.heap.size w.heap.size zs) := hr1
        clear hc hr1 hz hD
        obtain ⟨i0, hi, hz0, hz1, hz2⟩ := info_parts Try.info2
        go_wp2_with (at_make; refine wpList_make_full _ rfl _ _ 31 rfl w1.heap.size 2 i0 (.int .i64 0) 1 Try.underlying31 hi hz0 hz1 _ _ _ _ m rfl rfl (by first | rfl | omega) (by first | rfl | omega) (by rw [hz2]; omega) (by unfold maxLen; omega) (Nat.le_refl _) ?_; intro w2 ho2 hg2; have hr2 := row_made ho2; have hf2 := (hr2.store 0).1; have hcl2 := hr2.cell 0 (by simp; omega))
        have HP1 : Hid (Pre (w2.setCell ⟨w1.heap.size, 0, none⟩ (.int .i64 left)) w1.heap.size w1.heap.size m 1 left zs lv ∧ w1.grownBy (w2.setCell ⟨w1.heap.size, 0, none⟩ (.int .i64 left)) none) := pre_start hr2 hg2 hm1
        clear hr2 hf2 hcl2 ho2
        go_loopw [13] (fun ks wr => ∃ i : Nat, i + 1 ≤ m ∧ ks = .int .i64 ((i : Int) + 1) ∧ Pre wr w1.heap.size w1.heap.size m (i + 1) left zs lv ∧ w1.grownBy wr none) (fun ks _ => m - (intOf ks).toNat)
        case atStart => exact ⟨0, by omega, rfl, HP1.out.1, HP1.out.2⟩
        case round =>
          obtain ⟨i, hi1, rfl, hp, hg⟩ := hrel
          by_cases hlt : i + 1 < m
          · have hlz : lv + (i + 1) < zs.length := by have := HM2.out; omega
            have hcq : wr.cell? ⟨w.heap.size, lv + (i + 1), none⟩ = some (.int .i64 (zs.getD (lv + (i + 1)) 0)) := hg.cell (HC.out _ hlz) (by simp)
            have hcp := hp.cell i (by omega) (by omega)
            obtain ⟨Y, hct⟩ := hp.there (i + 1) hlt
            have hft := hp.free (i + 1)
            have HS : Hid (tot left zs lv (i + 1) = tot left zs lv i + zs.getD (lv + (i + 1)) 0) := rfl
            have hsum : wrap64 (tot left zs lv i + zs.getD (lv + (i + 1)) 0) = tot left zs lv i + zs.getD (lv + (i + 1)) 0 := by
              have h1 := HD.out.le_max (i := i + 1) (by have := HM.out; omega)
              have h2 := HD.out.nonneg (i := i + 1) (by have := HM.out; omega)
              rw [HS.out] at h1 h2
              exact wrap_in _ (by omega) (by unfold maxI at h1; exact h1)
            have hsum2 : IntKind.i64.wrap (tot left zs lv i + zs.getD (lv + (i + 1)) 0) = tot left zs lv i + zs.getD (lv + (i + 1)) 0 := by rw [Go.IntWalk.i64_left]; exact hsum
            have HN := hp.next hlt
            rw [HS.out] at HN
            have HN2 : Hid (Pre (wr.setCell ⟨w1.heap.size, i + 1, none⟩ (.int .i64 (tot left zs lv i + zs.getD (lv + (i + 1)) 0))) w1.heap.size w1.heap.size m (i + 1 + 1) left zs lv ∧ wr.grownBy (wr.setCell ⟨w1.heap.size, i + 1, none⟩ (.int .i64 (tot left zs lv i + zs.getD (lv + (i + 1)) 0))) (some w1.heap.size)) := HN
            clear HN hp
            generalize tot left zs lv i = T at hcp hsum hsum2 HN2 HS
            generalize zs.getD (lv + (i + 1)) 0 = X at hcq hsum hsum2 HN2 HS
            have hne : ¬ (i + 1 = i) := by omega
            have hII : (0 : Int) ≤ (i : Int) := by omega
            have hI2 : (i : Int) < (m : Int) := by omega
            have hI3 : (i : Int) + 1 < (m : Int) := by omega
            have hI4 : (lv : Int) + ((i : Int) + 1) < (zs.length : Int) := by omega
            go_wp2_with fail
            go_region
            go_wp2_with fail
            go_roundw
            case rel => exact ⟨i + 1, by omega, by go_num, HN2.out.1.drew, grown_drew (grownBy_trans hg HN2.out.2 (fun k hk => .inr (by cases hk; exact Nat.le_refl _)))⟩
            case measure => simp [intOf]; omega
          · have him : i + 1 = m := by omega
            rw [him] at hp
            have HP : Hid (Pre wr w1.heap.size w1.heap.size m m left zs lv) := hp
            have hlow : ((i : Int) + 1 < (m : Int)) = False := by simp; omega
            clear hp HP1 hlt
            go_wp2_with fail
            go_loop [14, 15] (fun los his => ∃ lo hi : Nat, lo ≤ hi ∧ hi < m ∧ los = .int .i64 (lo : Int) ∧ his = .int .i64 (hi : Int) ∧ q ≤ tot left zs lv hi ∧ ∀ j, j < lo → tot left zs lv j < q) (fun los his => (intOf his - intOf los).toNat)
            case atStart =>
              refine ⟨0, m - 1, by omega, by omega, rfl, ?_, by have := HQ1.out; rw [HM.out] at this; exact this, fun j hj => by omega⟩
              go_num
            case round =>
              obtain ⟨lo, hi', hlh, hhm, rfl, rfl, hqh, hbl⟩ := hrel
              have HQH : Hid (q ≤ tot left zs lv hi') := hqh
              have HBL : Hid (∀ j, j < lo → tot left zs lv j < q) := hbl
              clear hqh hbl
              by_cases hll : lo < hi'
              · obtain ⟨mid, hmid⟩ : ∃ mid, mid = lo + (hi' - lo) / 2 := ⟨_, rfl⟩
                have hmI2 : (lo : Int) + ((hi' : Int) - (lo : Int)) / 2 = (mid : Int) := by omega
                have hml2 : lo ≤ mid := by omega
                have hmh : mid < hi' := by omega
                have hmm : mid < m := by omega
                clear hmid
                have hcm := HP.out.cell mid (by omega) (by omega)
                by_cases hge : q ≤ tot left zs lv mid
                · have HG : Hid (q ≤ tot left zs lv mid) := hge
                  generalize tot left zs lv mid = T at hcm hge
                  go_wp2_with fail
                  go_round
                  case rel => exact ⟨lo, mid, hml2, hmm, rfl, rfl, HG.out, HBL.out⟩
                  case measure => simp [intOf]; omega
                · have HG : Hid (∀ j, j < mid + 1 → tot left zs lv j < q) := by
                    intro j hj
                    have := HD.out.mono (i := j) (j := mid) (by omega) (by have := HM.out; omega)
                    omega
                  generalize tot left zs lv mid = T at hcm hge
                  go_wp2_with fail
                  go_round
                  case rel => exact ⟨mid + 1, hi', by omega, hhm, by go_num, rfl, HQH.out, HG.out⟩
                  case measure => simp [intOf]; omega
              · have hlo : lo = hi' := by omega
                subst hlo
                have HF : Hid (First left zs lv q lo) := ⟨by have := HM.out; omega, HQH.out, HBL.out⟩
                go_wp2_with fail
                refine (zz_any wr w.heap.size lv zs left q zs.length HD.out hy4 HQ1.out (by omega) (fun j hj => hg.cell (HC.out j hj) (by simp))).mono ?_
                rintro e w3 ⟨⟨i2, hF2, rfl⟩, hg3⟩
                have hij := hF2.unique HF.out
                subst hij
                have hcl : w3.cell? ⟨w1.heap.size, i2, none⟩ = some (.int .i64 (tot left zs lv i2)) := hg3.cell (HP.out.cell i2 (by omega) (by omega)) (by simp)
                have hwt : IntKind.u64.wrap (tot left zs lv i2) = tot left zs lv i2 := wrapU _ (HD.out.nonneg hF2.1) (HD.out.le_max hF2.1)
                have HB : Hid (Below w.heap.size w w3) := ((grown_below hg1).trans ((grown_below hg).mono hg1.size)).trans ((grown_below hg3).mono (Nat.le_trans hg1.size hg.size))
                clear hF2 hg1 hg hg3 hg2
                generalize tot left zs lv i2 = T at hcl hwt ⊢
                have hTT : (T == T) = true := by simp
                go_wp2_with fail
                go_ret
                exact ⟨rfl, HB.out⟩


end Go.Proofs.Qxb6602894a.law1

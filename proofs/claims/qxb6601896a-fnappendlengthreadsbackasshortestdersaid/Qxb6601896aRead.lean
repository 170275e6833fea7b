import Derived.Test.Qxb6601896aProg
import Derived.Test.Qxb6601896aBytes
import Derived.Test.Qxb6601896aPlain
namespace Go.Proofs.Qxb6601896a
open Go.RowKit
set_option linter.unusedVariables false

set_option maxHeartbeats 1000000 in
theorem zzbytes14 (w : World) (a : Option Addr) (len cap : Nat) (N : Int) (hl : len ≤ 1048576) :
    Calls Try.prog 14 #[.slice a len cap, .int .i64 N] w fun e w' => e = .returned (.bool true) ∧ w' = w := by
  go_enter Try.func14, Try.ntmps14
  go_wp2_with fail
  go_ret
  exact ⟨rfl, rfl⟩

set_option maxHeartbeats 1000000 in
theorem zzbytes14_no (w : World) (a : Option Addr) (len cap : Nat) (N : Int) (hl : 1048576 < len) (hm : len ≤ 9223372036854775807) :
    Calls Try.prog 14 #[.slice a len cap, .int .i64 N] w fun e w' => e = .returned (.bool false) ∧ w' = w := by
  go_enter Try.func14, Try.ntmps14
  go_wp2_with fail
  go_ret
  exact ⟨rfl, rfl⟩

set_option maxHeartbeats 1000000 in
theorem read_small (w : World) (b off c : Nat) (n : Int) (hc : w.cell? ⟨b, off, none⟩ = some (.int .u8 n)) (hn : n < 128) (hn0 : 0 ≤ n) :
    Calls Try.prog 15 #[.slice (some ⟨b, off, none⟩) 1 c] w fun e w' => e = .returned (.tuple #[.int .u64 n, .int .i64 1, .bool true]) ∧ w' = w := by
  go_enter Try.func15, Try.ntmps15
  go_wp2_with fail
  go_ret3
  exact ⟨rfl, rfl⟩

theorem or_step (V d : Int) (h0 : 0 ≤ V) (h1 : V ≤ 36028797018963967) (h2 : 0 ≤ d) (h3 : d < 256) : bits BinOp.or IntKind.u64 (IntKind.u64.wrap (V * 256)) (IntKind.u64.wrap d) = V * 256 + d := by
  have hw2 : IntKind.u64.wrap d = d := by
    simp only [IntKind.wrap, IntKind.bits, IntKind.signed]
    simp
    omega
  have hw : IntKind.u64.wrap (V * 256) = V * 256 := by
    simp only [IntKind.wrap, IntKind.bits, IntKind.signed]
    simp
    omega
  rw [hw, hw2, u64_or _ _ (by omega) (by omega) (by omega) (by omega), nat_join 8 _ _ (by omega) (by omega)]
  omega

set_option maxHeartbeats 1000000 in
set_option maxRecDepth 100000 in
theorem read_big (w : World) (b off c J : Nat) (d V : Nat → Int) (hc0 : w.cell? ⟨b, off, none⟩ = some (.int .u8 (128 + (J : Int))))
    (hc : ∀ i, i < J → w.cell? ⟨b, off + (i + 1), none⟩ = some (.int .u8 (d i))) (hd : ∀ i, i < J → 0 ≤ d i ∧ d i < 256) (hd0 : 1 ≤ d 0)
    (h1 : 1 ≤ J) (h8 : J ≤ 8) (hV0 : V 0 = 0) (hV : ∀ i, i < J → V (i + 1) = V i * 256 + d i ∧ 0 ≤ V i ∧ V i ≤ 36028797018963967) (hlast : 128 ≤ V J) :
    Calls Try.prog 15 #[.slice (some ⟨b, off, none⟩) (J + 1) c] w fun e w' => e = .returned (.tuple #[.int .u64 (V J), .int .i64 (1 + (J : Int)), .bool true]) ∧ w' = w := by
  have hd1 : w.cell? ⟨b, off + 1, none⟩ = some (.int .u8 (d 0)) := hc 0 (by omega)
  have hnz : (d 0 == 0) = false := beq_eq_false_iff_ne.2 (by omega)
  have hdd := hd 0 (by omega)
  have HV0 : Hid (V 0 = 0) := hV0
  have HV : Hid (∀ i, i < J → V (i + 1) = V i * 256 + d i ∧ 0 ≤ V i ∧ V i ≤ 36028797018963967) := hV
  have HC : Hid (∀ i, i < J → w.cell? ⟨b, off + (i + 1), none⟩ = some (.int .u8 (d i))) := hc
  have HL : Hid (128 ≤ V J) := hlast
  have HD : Hid (∀ i, i < J → 0 ≤ d i ∧ d i < 256) := hd
  clear hc hV0 hV hlast hd
  generalize d 0 = d0 at hd1 hnz hdd hd0
  have hF : (128 : Int) ≤ 128 + (J : Int) := by omega
  have hbits : bits BinOp.and IntKind.u8 (128 + (J : Int)) 127 = (J : Int) := by
    rw [u8_and _ _ (by omega) (by omega) (by omega) (by omega), show (127 : Int).toNat = 127 from rfl, nat_mask7]
    omega
  have hJ0 : ((J : Int) == 0) = false := beq_eq_false_iff_ne.2 (by omega)
  generalize (128 : Int) + (J : Int) = F at hc0 hF hbits
  go_enter Try.func15, Try.ntmps15
  go_wp2_with fail
  go_loop [7, 8] (fun vs js => ∃ i : Nat, i ≤ J ∧ js = .int .i64 ((i : Int) + 1) ∧ vs = .int .u64 (V i)) (fun _ js => J + 1 - (intOf js).toNat)
  case atStart => exact ⟨0, by omega, rfl, by rw [HV0.out]⟩
  case round =>
    obtain ⟨i, hi, rfl, rfl⟩ := hrel
    by_cases hlt : i < J
    · have hci := HC.out i hlt
      have HB : Hid (bits BinOp.or IntKind.u64 (IntKind.u64.wrap (V i * 256)) (IntKind.u64.wrap (d i)) = V (i + 1)) := by
        have h2 := HV.out i hlt
        have h3 := HD.out i hlt
        rw [h2.1]
        exact or_step _ _ h2.2.1 h2.2.2 h3.1 h3.2
      generalize hD : d i = di at hci HB
      clear hD
      generalize hV' : V (i + 1) = V1 at HB
      have HV1 : Hid (V (i + 1) = V1) := hV'
      clear hV'
      generalize V i = V0 at HB ⊢
      go_wp2_with fail
      go_round
      case rel => exact ⟨i + 1, by omega, by go_num, by rw [HB.out, HV1.out]⟩
      case measure => simp [intOf]; omega
    · have hiJ : i = J := by omega
      subst hiJ
      have hl := HL.out
      generalize hVJ : V i = VJ at hl ⊢
      have HJ : Hid (V i = VJ) := hVJ
      clear hVJ
      go_wp2_with fail
      go_ret3
      exact ⟨by rw [HJ.out]; rfl, rfl⟩

theorem be_get (k n i : Nat) (h : i < k) : (be k n).getD i 0 = ((n / 256 ^ (k - 1 - i) % 256 : Nat) : Int) := by
  induction k generalizing i with
  | zero => omega
  | succ k ih =>
    rw [be_cons]
    cases i with
    | zero => simp
    | succ i =>
      rw [List.getD_cons_succ, ih i (by omega), show k + 1 - 1 - (i + 1) = k - 1 - i by omega]

theorem read_any (w : World) (v : Value) (n : Nat) (zs : List Int) (hv : Has w v zs) (hz : LenBytes n zs) (hn : n < 9223372036854775808) :
    Calls Try.prog 15 #[v] w fun e w' => e = .returned (.tuple #[.int .u64 (n : Int), .int .i64 (zs.length : Int), .bool true]) ∧ w' = w := by
  obtain ⟨b, off, c, rfl, hc⟩ := hv.rowAt hz.length.1
  rcases hz with ⟨h1, rfl⟩ | ⟨h1, J, hJ1, hJ8, hlo, hhi, rfl⟩
  · have h0 := hc 0 (by simp)
    have hm : (n : Int) % 256 = n := by omega
    simp only [List.getD_cons_zero, Nat.add_zero, hm] at h0
    exact read_small w b off c n h0 h1 (by omega)
  · have h0 := hc 0 (by simp)
    simp only [List.getD_cons_zero, Nat.add_zero] at h0
    simp only [Int.toNat_natCast] at hlo hhi hc ⊢
    have hlen : (((128 : Int) + (J : Int)) :: be J n).length = J + 1 := by rw [List.length_cons, be_length]
    rw [hlen]
    have hdiv : ∀ i, i < J → n / 256 ^ (J - (i + 1)) = n / 256 ^ (J - i) * 256 + n / 256 ^ (J - 1 - i) % 256 := by
      intro i hi
      have e1 : J - i = (J - (i + 1)) + 1 := by omega
      have e2 : J - 1 - i = J - (i + 1) := by omega
      rw [e1, e2, Nat.pow_succ, ← Nat.div_div_eq_div_mul]
      omega
    have hb := read_big w b off c J (fun i => ((n / 256 ^ (J - 1 - i) % 256 : Nat) : Int)) (fun i => ((n / 256 ^ (J - i) : Nat) : Int)) h0
      (fun i hi => by
        have h := hc (i + 1) (by rw [hlen]; omega)
        rw [List.getD_cons_succ, be_get J n i hi] at h
        exact h)
      (fun i hi => by
        generalize n / 256 ^ (J - 1 - i) = q
        show (0 : Int) ≤ ((q % 256 : Nat) : Int) ∧ ((q % 256 : Nat) : Int) < 256
        omega)
      (by
        have h2 : n / 256 ^ (J - 1) < 256 := by
          apply Nat.div_lt_of_lt_mul
          rw [← Nat.pow_succ, Nat.succ_eq_add_one, show J - 1 + 1 = J by omega]
          exact hhi
        have h3 : 1 ≤ n / 256 ^ (J - 1) := (Nat.one_le_div_iff (Nat.pow_pos (by omega))).2 hlo
        show (1 : Int) ≤ ((n / 256 ^ (J - 1 - 0) % 256 : Nat) : Int)
        rw [Nat.sub_zero]
        generalize n / 256 ^ (J - 1) = q at h2 h3 ⊢
        omega)
      hJ1 hJ8
      (by
        show ((n / 256 ^ (J - 0) : Nat) : Int) = 0
        rw [Nat.sub_zero, Nat.div_eq_of_lt hhi]
        rfl)
      (fun i hi => by
        have h2 := hdiv i hi
        have h3 : n / 256 ^ (J - i) ≤ n / 256 := by
          apply Nat.div_le_div_left _ (by omega)
          have : 256 ^ 1 ≤ 256 ^ (J - i) := Nat.pow_le_pow_right (by omega) (by omega)
          simpa using this
        show ((n / 256 ^ (J - (i + 1)) : Nat) : Int) = ((n / 256 ^ (J - i) : Nat) : Int) * 256 + ((n / 256 ^ (J - 1 - i) % 256 : Nat) : Int) ∧ 0 ≤ ((n / 256 ^ (J - i) : Nat) : Int) ∧ ((n / 256 ^ (J - i) : Nat) : Int) ≤ 36028797018963967
        generalize n / 256 ^ (J - (i + 1)) = q1 at h2 ⊢
        generalize n / 256 ^ (J - i) = q2 at h2 h3 ⊢
        generalize n / 256 ^ (J - 1 - i) % 256 = q3 at h2 ⊢
        omega)
      (by
        show (128 : Int) ≤ ((n / 256 ^ (J - J) : Nat) : Int)
        rw [Nat.sub_self, Nat.pow_zero, Nat.div_one]
        exact h1)
    refine hb.mono ?_
    rintro e w' ⟨rfl, rfl⟩
    refine ⟨?_, rfl⟩
    rw [Nat.sub_self, Nat.pow_zero, Nat.div_one, show ((J + 1 : Nat) : Int) = 1 + (J : Int) by omega]

end Go.Proofs.Qxb6601896a

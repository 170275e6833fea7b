import Derived.Test.Qxb6601896aProg
import Derived.Test.Qxb6601896aBytes
import Derived.Test.Qxb6601896aPlain
namespace Go.Proofs.Qxb6601896a
open Go.RowKit
set_option linter.unusedVariables false

theorem Try.info5 : (Try.prog.info? 5).map (fun i => (i.zero, i.size, i.bytes)) = some (some (.int .u8 0), 1, 1) := by kernel_rfl

set_option maxHeartbeats 400000 in
theorem al_small (w : World) (base : Nat) (v : Value) (xs : List Int) (N : Int) (hown : Own 5 w base v xs) (hbase : base ≤ w.heap.size) (hlen : xs.length ≤ 1000000) (hN : N < 128) (hN0 : -9223372036854775808 ≤ N) :
    Calls Try.prog 25 #[v, .int .i64 N] w fun e w' => ∃ v' zs, e = .returned v' ∧ LenBytes N zs ∧ Own 5 w' base v' (xs ++ zs) ∧ Step w w' v v' := by
  obtain ⟨i0, hi, hz0, hz1, hz2⟩ := info_parts Try.info5
  go_enter Try.func25, Try.ntmps25
  go_wp2_with (at_builtin; refine wpList_append_bytes _ rfl (.tmp 8) (.tmp 11) 22 rfl base 5 i0 Try.underlying22 hi hz0 hz1 hz2 v _ xs _ rfl rfl (hown.alloc _) (Has.one 5 w _) ?_ ?_ ?_; rotate_right; intro v' w' ho hst)
  case refine_1 => simp; omega
  case refine_2 => simp; omega
  go_ret
  exact ⟨_, _, rfl, .inl ⟨hN, rfl⟩, ho, Step.before (World.grownBy_alloc _ _ _) hst⟩

theorem al_lt {N j : Nat} (h : N / 256 ^ j = 0) : N < 256 ^ j := by
  have h2 : 0 < 256 ^ j := Nat.pow_pos (by omega)
  exact (Nat.div_eq_zero_iff_lt h2).1 h

theorem al_round {w wr w' : World} {v' : Value} (N j M : Nat) (hM : N / 256 ^ j = M) (hpos : 0 < M) (hN : N < 9223372036854775808) (hj : j ≤ 8) (hg : w.grownBy wr none)
    (ho : Own 5 w' w.heap.size v' ([(M : Int) % 256] ++ be j N)) (hst : Step (wr.alloc (.cells #[.int .u8 ((M : Int) % 256)] 5)) w' (.slice (some ⟨wr.heap.size, 0, none⟩) 1 1) v') :
    j + 1 ≤ 8 ∧ (0 < j + 1 → 256 ^ (j + 1 - 1) ≤ N) ∧ Value.int .i64 ((M : Int) / 256) = .int .i64 ((N / 256 ^ (j + 1) : Nat) : Int) ∧ Own 5 w' w.heap.size v' (be (j + 1) N) ∧ w.grownBy w' none := by
  have hle : 256 ^ j ≤ N := by
    rcases Nat.lt_or_ge N (256 ^ j) with h | h
    · rw [Nat.div_eq_of_lt h] at hM; omega
    · exact h
  refine ⟨?_, fun _ => by simpa using hle, ?_, ?_, ?_⟩
  · rcases Nat.lt_or_ge j 8 with h | h
    · omega
    · have : j = 8 := by omega
      subst this
      have h8 : (256 : Nat) ^ 8 = 18446744073709551616 := by decide
      omega
  · rw [Nat.pow_succ, ← Nat.div_div_eq_div_mul, hM]
    simp
  · rw [be_cons, hM]
    simpa using ho
  · exact grownBy_trans hg (grownBy_trans (World.grownBy_alloc wr _ none) hst.1 (fun k hk => .inr (by simp [Value.ownBlock] at hk; omega))) (fun k hk => by cases hk)

set_option maxHeartbeats 1000000 in
theorem al_big (w : World) (base : Nat) (v : Value) (xs : List Int) (N : Nat) (hown : Own 5 w base v xs) (hbase : base ≤ w.heap.size) (hlen : xs.length ≤ 1000000) (hN : 128 ≤ N) (hN0 : N < 9223372036854775808) :
    Calls Try.prog 25 #[v, .int .i64 (N : Int)] w fun e w' => ∃ v' zs, e = .returned v' ∧ LenBytes N zs ∧ Own 5 w' base v' (xs ++ zs) ∧ Step w w' v v' := by
  obtain ⟨i0, hi, hz0, hz1, hz2⟩ := info_parts Try.info5
  have hlt : ¬ ((N : Int) < 128) := by omega
  go_enter Try.func25, Try.ntmps25
  go_wp2_with fail
  go_loopw [1, 5] (fun n d wr => ∃ j : Nat, j ≤ 8 ∧ (0 < j → 256 ^ (j - 1) ≤ N) ∧ n = .int .i64 ((N / 256 ^ j : Nat) : Int) ∧ Own 5 wr w.heap.size d (be j N) ∧ w.grownBy wr none) (fun n _ _ => (intOf n).toNat)
  case atStart => exact ⟨0, by omega, by simp, by simp, Own.nil _ _ _, World.grownBy.refl _ _⟩
  case round =>
    obtain ⟨j, hj, hlow, rfl, hd, hg⟩ := hrel
    have hbl := be_length j N
    by_cases hpos : 0 < N / 256 ^ j
    · generalize hM : N / 256 ^ j = M at hpos ⊢
      have HM : Hid (N / 256 ^ j = M) := hM
      have hML : M ≤ N := by rw [← hM]; exact Nat.div_le_self _ _
      clear hM
      go_wp2_with (at_builtin; refine wpList_append_bytes _ rfl (.tmp 19) (.tmp 20) 22 rfl w.heap.size 5 i0 Try.underlying22 hi hz0 hz1 hz2 (.slice (some ⟨wr.heap.size, 0, none⟩) 1 1) _ [(M : Int) % 256] (be j N) rfl rfl (Own.one 5 wr _ _ hg.size) (hd.alloc _).has ?_ ?_ ?_; rotate_right; intro v' w' ho hst)
      case refine_1 => simp; omega
      case refine_2 => have := hg.size; simp; omega
      go_roundw
      case rel =>
        have R := al_round N j M HM.out hpos hN0 hj hg ho hst
        exact ⟨j + 1, R.1, R.2.1, R.2.2.1, R.2.2.2.1, R.2.2.2.2⟩
      case measure => simp [intOf]; omega
    · have hz : N / 256 ^ j = 0 := Nat.eq_zero_of_not_pos hpos
      rw [hz]
      obtain ⟨ao, c, hu⟩ := hd.has.shape
      rw [hbl] at hu
      subst hu
      have hj1 : 1 ≤ j := by
        rcases Nat.eq_zero_or_pos j with h0 | h0
        · subst h0; simp at hz; omega
        · exact h0
      have HZ : Hid (N / 256 ^ j = 0) := hz
      have hsz := hg.size
      have hap := hown.apart hd
      clear hz hpos
      go_wp2_with (first | (at_builtin; refine wpList_append_bytes _ rfl (.tmp 22) (.tmp 27) 22 rfl base 5 i0 Try.underlying22 hi hz0 hz1 hz2 v _ xs _ rfl rfl ((hown.kept hg (by cases v.ownBlock <;> simp)).alloc _) (Has.one 5 wr _) (by simp; omega) (by simp; omega) ?_; intro v1 w1 ho1 hst1) | (at_builtin; refine wpList_append_bytes _ rfl (.tmp 28) (.tmp 29) 22 rfl base 5 i0 Try.underlying22 hi hz0 hz1 hz2 v1 _ _ (be j N) rfl rfl ho1 ((hd.alloc _).kept hst1.1 hap).has (by simp; omega) (by have := hst1.1.size; simp at this; omega) ?_; intro v2 w2 ho2 hst2))
      go_ret
      exact ⟨v2, _, rfl, .inr ⟨by omega, j, hj1, hj, hlow hj1, al_lt HZ.out, rfl⟩, by simpa using ho2, Step.before hg (Step.before (World.grownBy_alloc _ _ _) (hst1.trans hst2))⟩

theorem al_any (w : World) (base : Nat) (v : Value) (xs : List Int) (N : Int) (hown : Own 5 w base v xs) (hbase : base ≤ w.heap.size) (hlen : xs.length ≤ 1000000) (h0 : -9223372036854775808 ≤ N) (h1 : N < 9223372036854775808) :
    Calls Try.prog 25 #[v, .int .i64 N] w fun e w' => ∃ v' zs, e = .returned v' ∧ LenBytes N zs ∧ Own 5 w' base v' (xs ++ zs) ∧ Step w w' v v' := by
  by_cases h : N < 128
  · exact al_small w base v xs N hown hbase hlen h h0
  · obtain ⟨n, rfl⟩ := Int.eq_ofNat_of_zero_le (show 0 ≤ N by omega)
    exact al_big w base v xs n hown hbase hlen (by omega) (by omega)

set_option maxHeartbeats 400000 in
theorem zzal_any (w : World) (base : Nat) (v : Value) (xs : List Int) (N : Int) (hown : Own 5 w base v xs) (hbase : base ≤ w.heap.size) (hlen : xs.length ≤ 1000000) (h0 : -9223372036854775808 ≤ N) (h1 : N < 9223372036854775808) :
    Calls Try.prog 12 #[v, .int .i64 N] w fun e w' => ∃ v' zs, e = .returned v' ∧ LenBytes N zs ∧ Own 5 w' base v' (xs ++ zs) ∧ Step w w' v v' := by
  go_enter Try.func12, Try.ntmps12
  go_wp2_with fail
  refine (al_any w base v xs N hown hbase hlen h0 h1).mono ?_
  rintro e w' ⟨v', zs, rfl, hz, ho, hs⟩
  go_wp2_with fail
  go_ret
  exact ⟨v', zs, rfl, hz, ho, hs⟩

end Go.Proofs.Qxb6601896a

import Derived.Test.Qxb6601896aProg
import Derived.Test.Qxb6601896aBytes
import Derived.Test.Qxb6601896aAL
namespace Go.Proofs.Qxb6601896a
open Go.RowKit
set_option linter.unusedVariables false

set_option maxHeartbeats 1000000 in
theorem zzbytes9 (w : World) (a : Option Addr) (len cap : Nat) (N : Int) (hl : len ≤ 1048576) :
    Calls Try.prog 9 #[.slice a len cap, .int .i64 N] w fun e w' => e = .returned (.bool true) ∧ w' = w := by
  go_enter Try.func9, Try.ntmps9
  go_wp2_with fail
  go_ret
  exact ⟨rfl, rfl⟩

set_option maxHeartbeats 1000000 in
theorem zzbytes9_no (w : World) (a : Option Addr) (len cap : Nat) (N : Int) (hl : 1048576 < len) (hm : len ≤ 9223372036854775807) :
    Calls Try.prog 9 #[.slice a len cap, .int .i64 N] w fun e w' => e = .returned (.bool false) ∧ w' = w := by
  go_enter Try.func9, Try.ntmps9
  go_wp2_with fail
  go_ret
  exact ⟨rfl, rfl⟩

theorem low_byte (N : Int) : bits BinOp.and IntKind.u64 (IntKind.u64.wrap N) 255 % 256 = N % 256 := by
  have hw : IntKind.u64.wrap N = N % 18446744073709551616 := by simp [IntKind.wrap, IntKind.bits, IntKind.signed]
  rw [hw, u64_and _ _ (by omega) (by omega) (by omega) (by omega), show (255 : Int).toNat = 255 from rfl, nat_mask8]
  omega

def limAt (k : Nat) : Int := if k = 8 then 0 else ((256 ^ k : Nat) : Int)
def lowAt (k n : Nat) : Prop := 1 < k → 256 ^ (k - 1) ≤ n

theorem lim_next6 (k : Nat) (h : k < 7) : limAt (k + 1) = limAt k * 256 := by
  unfold limAt
  rw [if_neg (by omega), if_neg (by omega), Nat.pow_succ]
  simp

theorem lim_bound (k : Nat) (h : k < 7) : 0 ≤ limAt k ∧ limAt k ≤ 281474976710656 := by
  unfold limAt
  rw [if_neg (by omega)]
  have h1 : 256 ^ k ≤ 256 ^ 6 := Nat.pow_le_pow_right (by omega) (by omega)
  rw [show (256 : Nat) ^ 6 = 281474976710656 from by decide] at h1
  generalize 256 ^ k = P at h1
  omega

theorem wrap_u64_is (n : Int) : IntKind.u64.wrap n = n % 18446744073709551616 := by simp [IntKind.wrap, IntKind.bits, IntKind.signed]

theorem lim_step (k : Nat) (h : k < 8) : IntKind.u64.wrap (limAt k * 256) = limAt (k + 1) := by
  rw [wrap_u64_is]
  rcases Nat.lt_or_ge k 7 with h7 | h7
  · rw [lim_next6 k h7]
    have := lim_bound k h7
    omega
  · have : k = 7 := by omega
    subst this
    decide

/-- What the third loop has laid when m digits are still to come. -/
def bePart (k n m : Nat) : List Int := be (k - m) (n / 256 ^ m)

theorem bePart_step (k n m : Nat) (h : m < k) : bePart k n m = bePart k n (m + 1) ++ [((n / 256 ^ m : Nat) : Int) % 256] := by
  unfold bePart
  rw [show k - m = (k - (m + 1)) + 1 by omega, show be (k - (m + 1) + 1) (n / 256 ^ m) = be (k - (m + 1)) (n / 256 ^ m / 256) ++ [((n / 256 ^ m % 256 : Nat) : Int)] from rfl, Nat.div_div_eq_div_mul, ← Nat.pow_succ]
  rfl

theorem shr_digit (n m : Nat) : (n : Int) / 2 ^ (8 * m) % 256 = ((n / 256 ^ m : Nat) : Int) % 256 := by
  have h : ((2 : Int) ^ (8 * m)) = ((256 ^ m : Nat) : Int) := by
    rw [show (256 : Nat) = 2 ^ 8 from rfl, ← Nat.pow_mul]
    simp
  rw [h]
  rfl

theorem model_round {w wr w' : World} {v v' : Value} (xs : List Int) (k n m : Nat) (hm : m + 1 ≤ k) (hg : w.grownBy wr none) (ho : Own 5 wr w.heap.size v (xs ++ [128 + (k : Int)] ++ bePart k n (m + 1)))
    (ho' : Own 5 w' w.heap.size v' (xs ++ [128 + (k : Int)] ++ bePart k n (m + 1) ++ [(n : Int) / 2 ^ (8 * m) % 256])) (hst : Step (wr.alloc (.cells #[.int .u8 ((n : Int) / 2 ^ (8 * m) % 256)] 5)) w' v v') :
    Own 5 w' w.heap.size v' (xs ++ [128 + (k : Int)] ++ bePart k n m) ∧ w.grownBy w' none := by
  have hst' := Step.before (World.grownBy_alloc _ _ _) hst
  refine ⟨?_, grownBy_trans hg hst'.1 (fun j hj => .inr (ho.lt j hj).1)⟩
  rw [bePart_step k n m (by omega), ← List.append_assoc, ← shr_digit]
  exact ho'

theorem model_end {w wr : World} {v : Value} (xs : List Int) (k n : Nat) (hN : 128 ≤ (n : Int)) (hk1 : 1 ≤ k) (hk8 : k ≤ 8) (he : n < 256 ^ k ∧ 256 ^ (k - 1) ≤ n) (ho : Own 5 wr w.heap.size v (xs ++ [128 + (k : Int)] ++ bePart k n 0)) :
    ∃ zs, LenBytes n zs ∧ Own 5 wr w.heap.size v (xs ++ zs) := by
  refine ⟨(128 + (k : Int)) :: be k n, .inr ⟨hN, k, hk1, hk8, he.2, he.1, rfl⟩, ?_⟩
  have h : bePart k n 0 = be k n := by simp [bePart]
  rw [h] at ho
  simpa using ho

set_option maxRecDepth 100000 in
set_option maxHeartbeats 2000000 in
theorem model_any (w : World) (v : Value) (xs : List Int) (N : Int) (hv : Has w v xs) (hl : xs.length ≤ 1000000) (h0 : -9223372036854775808 ≤ N) (h1 : N < 9223372036854775808) :
    Calls Try.prog 11 #[v, .int .i64 N] w fun e w' => ∃ v' zs, e = .returned v' ∧ LenBytes N zs ∧ Own 5 w' w.heap.size v' (xs ++ zs) ∧ w.grownBy w' none := by
  obtain ⟨i0, hi, hz0, hz1, hz2⟩ := info_parts Try.info5
  obtain ⟨ao, c, hv'⟩ := hv.shape
  subst hv'
  go_enter Try.func11, Try.ntmps11
  go_wp2_with (at_make; refine wpList_make_own _ rfl _ _ 22 rfl w.heap.size 5 i0 (.int .u8 0) 1 Try.underlying22 hi hz0 hz1 _ _ _ (xs.length + 9) rfl rfl (by omega) (by rw [hz2]; omega) (by unfold maxLen; omega) (Nat.le_refl _) ?_; intro w1 ho1 hg1)
  go_loopw [5, 6] (fun o i wr => ∃ k : Nat, k ≤ xs.length ∧ i = .int .i64 (k : Int) ∧ Own 5 wr w.heap.size o (xs.take k) ∧ w.grownBy wr none) (fun _ i _ => xs.length - (intOf i).toNat)
  case atStart => exact ⟨0, by omega, rfl, ho1, hg1⟩
  case round =>
    obtain ⟨k, hk, rfl, ho, hg⟩ := hrel
    have hsz := hg.size
    by_cases hlt : k < xs.length
    · obtain ⟨b, off, c', hv', hc⟩ := hv.rowAt (by omega)
      cases hv'
      have hcx : wr.cell? ⟨b, off + k, none⟩ = some (.int .u8 (xs.getD k 0)) := hg.cell (hc k hlt) (by simp)
      go_wp2_with (at_builtin; refine wpList_append_bytes _ rfl (.tmp 21) (.tmp 26) 22 rfl w.heap.size 5 i0 Try.underlying22 hi hz0 hz1 hz2 u5 _ (xs.take k) _ rfl rfl (ho.alloc _) (Has.one 5 wr _) ?_ ?_ ?_; rotate_right; intro v' w' ho' hst)
      case refine_1 => simp; omega
      case refine_2 => simp; omega
      go_roundw
      case rel =>
        have hst' := Step.before (World.grownBy_alloc _ _ _) hst
        exact ⟨k + 1, by omega, by go_num, by rw [List.take_succ_eq_append_getElem hlt]; exact ho', grownBy_trans hg hst'.1 (fun j hj => .inr (ho.lt j hj).1)⟩
      case measure => simp [intOf]; omega
    · have hk' : k = xs.length := by omega
      subst hk'
      rw [List.take_length] at ho
      by_cases hN : N < 128
      · go_wp2_with (at_builtin; refine wpList_append_bytes _ rfl (.tmp 30) (.tmp 35) 22 rfl w.heap.size 5 i0 Try.underlying22 hi hz0 hz1 hz2 u5 _ xs _ rfl rfl (ho.alloc _) (Has.one 5 wr _) ?_ ?_ ?_; rotate_right; intro v' w' ho' hst)
        case refine_1 => simp; omega
        case refine_2 => simp; omega
        go_ret
        have hst' := Step.before (World.grownBy_alloc _ _ _) hst
        rw [low_byte] at ho'
        exact ⟨v', _, rfl, .inl ⟨hN, rfl⟩, ho', grownBy_trans hg hst'.1 (fun j hj => .inr (ho.lt j hj).1)⟩
      · obtain ⟨n, rfl⟩ := Int.eq_ofNat_of_zero_le (show 0 ≤ N by omega)
        clear hv ho1 hg1
        go_wp2_with fail
        have H1 : Hid (n < 9223372036854775808) := by exact Int.ofNat_lt.1 h1
        clear h0 h1
        go_loopw [8, 9] (fun ks ls wr2 => ∃ k : Nat, 1 ≤ k ∧ k ≤ 8 ∧ ks = .int .i64 (k : Int) ∧ ls = .int .u64 (limAt k) ∧ lowAt k n ∧ wr2 = wr) (fun ks _ _ => 8 - (intOf ks).toNat)
        case atStart => exact ⟨1, by omega, by omega, rfl, rfl, fun h => by omega, rfl⟩
        case round =>
          obtain ⟨k, hk1, hk8, rfl, rfl, hlow, rfl⟩ := hrel
          by_cases hcont : k < 8 ∧ 256 ^ k ≤ n
          · obtain ⟨hk7, hge⟩ := hcont
            have HL : lowAt (k + 1) n := fun _ => hge
            have hlim : limAt k ≤ (n : Int) := by unfold limAt; rw [if_neg (by omega)]; omega
            clear hlow hge
            have HP : Hid (IntKind.u64.wrap (limAt k * 256) = limAt (k + 1)) := lim_step k hk7
            generalize limAt k = P at hlim HP ⊢
            go_wp2_with fail
            go_roundw
            case rel => exact ⟨k + 1, by omega, by omega, by go_num, by rw [← HP.out], HL, trivial⟩
            case measure => simp [intOf]; omega
          · have hend : k = 8 ∨ k < 8 ∧ n < 256 ^ k := by omega
            have HE : Hid (n < 256 ^ k ∧ 256 ^ (k - 1) ≤ n) := by
              refine ⟨?_, ?_⟩
              · rcases hend with h | h
                · subst h; have h8 : (256 : Nat) ^ 8 = 18446744073709551616 := by decide
                  have := H1.out; omega
                · exact h.2
              · rcases Nat.lt_or_ge 1 k with h | h
                · exact hlow h
                · have : k = 1 := by omega
                  subst this; simp; omega
            have hlim : 8 ≤ k ∨ k < 8 ∧ (n : Int) < limAt k := by
              rcases hend with h | h
              · left; omega
              · right; refine ⟨h.1, ?_⟩; unfold limAt; rw [if_neg (by omega)]; omega
            clear hend hcont hlow
            generalize limAt k = P at hlim ⊢
            rcases hlim with hx | ⟨hx, hx2⟩
            all_goals
              go_wp2_with (at_builtin; refine wpList_append_bytes _ rfl (.tmp 50) (.tmp 54) 22 rfl w.heap.size 5 i0 Try.underlying22 hi hz0 hz1 hz2 u5 _ xs _ rfl rfl (ho.alloc _) (Has.one 5 _ _) (by simp; omega) (by simp; omega) ?_; intro v' w' ho' hst)
              have hst' := Step.before (World.grownBy_alloc _ _ _) hst
              have hg2 := grownBy_trans hg hst'.1 (fun j hj => .inr (ho.lt j hj).1)
              clear hst hst'
              go_loopw [5, 10] (fun o js wr3 => ∃ m : Nat, m ≤ k ∧ js = .int .i64 ((m : Int) - 1) ∧ Own 5 wr3 w.heap.size o (xs ++ [128 + (k : Int)] ++ bePart k n m) ∧ w.grownBy wr3 none) (fun _ js _ => (intOf js + 1).toNat)
              case atStart => exact ⟨k, by omega, rfl, by simpa [bePart, be] using ho', hg2⟩
              case round =>
                obtain ⟨m, hm, rfl, ho3, hg3⟩ := hrel
                have hbl : (bePart k n m).length = k - m := be_length _ _
                have hsz3 := hg3.size
                rcases Nat.eq_zero_or_pos m with h0 | h0
                · subst h0
                  go_wp2_with fail
                  go_ret
                  obtain ⟨zs, hz, hoz⟩ := model_end xs k n hN hk1 hk8 HE.out ho3
                  exact ⟨_, zs, rfl, hz, hoz, hg3⟩
                · obtain ⟨m', rfl⟩ : ∃ m', m = m' + 1 := ⟨m - 1, by omega⟩
                  rw [show ((m' + 1 : Nat) : Int) - 1 = (m' : Int) by omega]
                  go_wp2_with (at_builtin; refine wpList_append_bytes _ rfl (.tmp 62) (.tmp 69) 22 rfl w.heap.size 5 i0 Try.underlying22 hi hz0 hz1 hz2 _ _ _ _ rfl rfl (ho3.alloc _) (Has.one 5 wr _) (by simp; omega) (by simp; omega) ?_; intro v4 w4 ho4 hst4)
                  go_roundw
                  case rel =>
                    have R := model_round xs k n m' hm hg3 ho3 ho4 hst4
                    exact ⟨m', by omega, by go_num, R.1, R.2⟩
                  case measure => simp [intOf]

end Go.Proofs.Qxb6601896a

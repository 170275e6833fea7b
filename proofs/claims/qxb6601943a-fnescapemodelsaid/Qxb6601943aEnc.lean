import Derived.Test.Qxb6601943aSmall
namespace Go.Proofs.Qxb6601943a
open Go.RowKit
set_option linter.unusedVariables false

set_option maxHeartbeats 1000000 in
theorem encodeByte_yes (w : World) (base kb : Nat) (v : Value) (xs : List Int) (c : Int) (K : Nat → Bool) (hown : Own w base v xs) (hbase : base ≤ w.heap.size) (hlen : xs.length ≤ 50000000) (hk : Kept w kb K) (h0 : 0 ≤ c) (h1 : c < 256) (hc : K c.toNat = true) :
    Calls Try.prog 20 #[v, .int .u8 c, .pointer (some ⟨kb, 0, none⟩)] w fun e w' => ∃ v', e = .returned v' ∧ Own w' base v' (xs ++ [c]) ∧ Step w w' v v' := by
  obtain ⟨i0, hi, hz0, hz1, hz2⟩ := info_parts Try.info5
  have hcell : w.cell? ⟨kb, c.toNat, none⟩ = some (.bool true) := by rw [← hc]; exact hk c.toNat (by omega)
  clear hc hk
  go_enter Try.func20, Try.ntmps20
  go_wp2_with (at_builtin; refine wpList_append_bytes _ rfl (.tmp 12) (.tmp 14) 36 36 rfl base 5 i0 Try.underlying36 hi hz0 hz1 hz2 v _ xs [c] rfl rfl (hown.alloc _) (SrcB.lit Try.underlying36 w [c] 5) ?_ ?_ ?_; rotate_right; intro v' w' ho hst)
  case refine_1 => simp; omega
  case refine_2 => simp; omega
  go_ret
  exact ⟨_, rfl, ho, Step.before (World.grownBy_alloc _ _ _) hst⟩

set_option maxHeartbeats 1000000 in
theorem encodeByte_no (w : World) (base kb : Nat) (v : Value) (xs : List Int) (c : Int) (K : Nat → Bool) (hown : Own w base v xs) (hbase : base ≤ w.heap.size) (hlen : xs.length ≤ 50000000) (hk : Kept w kb K) (h0 : 0 ≤ c) (h1 : c < 256) (hc : K c.toNat = false) :
    Calls Try.prog 20 #[v, .int .u8 c, .pointer (some ⟨kb, 0, none⟩)] w fun e w' => ∃ v', e = .returned v' ∧ Own w' base v' (xs ++ pct c) ∧ Step w w' v v' := by
  obtain ⟨i0, hi, hz0, hz1, hz2⟩ := info_parts Try.info5
  have hcell : w.cell? ⟨kb, c.toNat, none⟩ = some (.bool false) := by rw [← hc]; exact hk c.toNat (by omega)
  clear hc hk
  go_enter Try.func20, Try.ntmps20
  go_wp2_with fail
  refine (hexDigit_any _ _ (by omega) (by omega)).mono ?_
  rintro e w1 ⟨rfl, hw1⟩
  subst hw1
  go_wp2_with fail
  refine (hexDigit_any _ _ (by omega) (by omega)).mono ?_
  rintro e w2 ⟨rfl, hw2⟩
  subst hw2
  go_wp2_with (at_builtin; refine wpList_append_bytes _ rfl (.tmp 16) (.tmp 23) 36 36 rfl base 5 i0 Try.underlying36 hi hz0 hz1 hz2 v _ xs (pct c) rfl rfl (hown.alloc _) (SrcB.lit Try.underlying36 _ (pct c) 5) ?_ ?_ ?_; rotate_right; intro v' w' ho hst)
  case refine_1 => simp [pct]; omega
  case refine_2 => simp; omega
  go_ret
  exact ⟨_, rfl, ho, Step.before (World.grownBy_alloc _ _ _) hst⟩

theorem encodeByte_any (w : World) (base kb : Nat) (v : Value) (xs : List Int) (c : Int) (K : Nat → Bool) (hown : Own w base v xs) (hbase : base ≤ w.heap.size) (hlen : xs.length ≤ 50000000) (hk : Kept w kb K) (h0 : 0 ≤ c) (h1 : c < 256) :
    Calls Try.prog 20 #[v, .int .u8 c, .pointer (some ⟨kb, 0, none⟩)] w fun e w' => ∃ v', e = .returned v' ∧ Own w' base v' (xs ++ encByte K c) ∧ Step w w' v v' := by
  cases hc : K c.toNat with
  | true => rw [encByte_yes hc]; exact encodeByte_yes w base kb v xs c K hown hbase hlen hk h0 h1 hc
  | false => rw [encByte_no hc]; exact encodeByte_no w base kb v xs c K hown hbase hlen hk h0 h1 hc

end Go.Proofs.Qxb6601943a

import Derived.Test.Qxb6601943aDec
namespace Go.Proofs.Qxb6601943a
open Go.RowKit
set_option linter.unusedVariables false

theorem canon_inv1 (K : Nat → Bool) (c : Int) (r : List Int) (h : canon K (c :: r) = true) (hc : c ≠ 37) : K c.toNat = true ∧ canon K r = true := by
  match r with
  | [] => simpa [canon, hc] using h
  | [d] => simpa [canon, hc, and_assoc] using h
  | h1 :: l :: r => simpa [canon, hc] using h

theorem canon_inv2 (K : Nat → Bool) (r : List Int) (h : canon K (37 :: r) = true) : ∃ a l r', r = a :: l :: r' ∧ isUp a = true ∧ isUp l = true ∧ K (hexVal a * 16 + hexVal l).toNat = false ∧ canon K r' = true := by
  match r with
  | [] => simp [canon] at h
  | [d] => simp [canon] at h
  | a :: l :: r =>
    rw [canon, if_neg (by simp)] at h
    split at h
    · rename_i hx
      exact ⟨a, l, r, rfl, hx.1, hx.2.1, hx.2.2, h⟩
    · cases h

theorem up_hex (c : Int) (h : isUp c = true) : 0 ≤ hexVal c := by
  unfold isUp at h
  rw [decide_eq_true_eq] at h
  rcases h with h | h
  · rw [hexVal_1 h.1 h.2]; omega
  · rw [hexVal_3 h.1 h.2]; omega

set_option maxHeartbeats 1000000 in
theorem canonical_yes (w : World) (kb : Nat) (s : ByteArray) (K : Nat → Bool) (hk : Kept w kb K) (hcan : canon K (nums s) = true) (hs : s.size ≤ 20000000) :
    Calls Try.prog 10 #[.string s, .pointer (some ⟨kb, 0, none⟩)] w fun e w' => e = .returned (.bool true) ∧ w' = w := by
  go_enter Try.func10, Try.ntmps10
  go_wp2_with fail
  go_loop [5] (fun i => ∃ k : Nat, k ≤ s.size ∧ i = .int .i64 (k : Int) ∧ canon K ((nums s).drop k) = true) (fun i => s.size - (intOf i).toNat)
  case atStart => exact ⟨0, by omega, rfl, hcan⟩
  case round =>
    obtain ⟨k, hk1, rfl, hc⟩ := hrel
    have hnl := nums_length s
    by_cases hlt : k < s.size
    · obtain ⟨c, hd, hc0⟩ := drop_one (nums s) k (by omega)
      have hi0 := index_is s k k c rfl hlt hc0
      have hb0 := isB_get (nums_isB s) hc0
      rw [hd] at hc
      by_cases hp : c = 37
      · subst hp
        obtain ⟨a, l, r, hr, ha, hl, hkv, hcr⟩ := canon_inv2 K _ hc
        have hlen : k + 2 < s.size := by
          have := congrArg List.length hr
          rw [List.length_drop] at this
          simp at this
          omega
        obtain ⟨c', ch, cl, hd3, hc0', hc1, hc2⟩ := drop_three (nums s) k (by omega)
        have e1 : ch = a ∧ cl = l ∧ (nums s).drop (k + 3) = r := by
          rw [hd, hr] at hd3
          simp at hd3
          exact ⟨hd3.2.1.symm, hd3.2.2.1.symm, hd3.2.2.2.symm⟩
        obtain ⟨rfl, rfl, e3⟩ := e1
        have hi1 := index_is s (k + 1) (k + 1) ch rfl (by omega) hc1
        have hi2 := index_is s (k + 2) (k + 2) cl rfl (by omega) hc2
        have hb1 := isB_get (nums_isB s) hc1
        have hb2 := isB_get (nums_isB s) hc2
        have HC : Hid (canon K ((nums s).drop (k + 3)) = true) := by rw [e3]; exact hcr
        have hv1 := hexVal_lt ch
        have hv2 := hexVal_lt cl
        have hu1 := up_hex ch ha
        have hu2 := up_hex cl hl
        have hcell := hk (hexVal ch * 16 + hexVal cl).toNat (by omega)
        rw [hkv] at hcell
        have HA : Hid (isUp ch = true) := ha
        have HL : Hid (isUp cl = true) := hl
        clear hc hd hr ha hl hkv hcr hd3 hc0' hc1 hc2 e3 hc0 hnl hcan
        go_wp2_with fail
        refine (isUp_any _ _ hb1.1 hb1.2).mono ?_
        rintro e w2 ⟨rfl, hw2⟩
        subst hw2
        rw [HA.out]
        go_wp2_with fail
        refine (isUp_any _ _ hb2.1 hb2.2).mono ?_
        rintro e w2 ⟨rfl, hw2⟩
        subst hw2
        rw [HL.out]
        go_wp2_with fail
        refine (hexVal_any _ _ hb1.1 hb1.2).mono ?_
        rintro e w2 ⟨rfl, hw2⟩
        subst hw2
        go_wp2_with fail
        refine (hexVal_any _ _ hb2.1 hb2.2).mono ?_
        rintro e w2 ⟨rfl, hw2⟩
        subst hw2
        generalize hexVal ch = H at hu1 hv1 hcell ⊢
        generalize hexVal cl = L at hu2 hv2 hcell ⊢
        go_wp2_with fail
        go_round
        case rel => exact ⟨k + 3, by omega, by go_num, HC.out⟩
        case measure => simp [intOf]; omega
      · have hpe : (c == 37) = false := by simp [hp]
        have hpn : (c != 37) = true := by simp [hp]
        obtain ⟨hkc, hcr⟩ := canon_inv1 K c _ hc hp
        have hcell := hk c.toNat (by omega)
        rw [hkc] at hcell
        have HC : Hid (canon K ((nums s).drop (k + 1)) = true) := hcr
        clear hc hd hcr hkc hp hc0 hnl hcan
        go_wp2_with fail
        go_round
        case rel => exact ⟨k + 1, by omega, by go_num, HC.out⟩
        case measure => simp [intOf]; omega
    · go_wp2_with fail
      go_ret
      exact ⟨rfl, rfl⟩

end Go.Proofs.Qxb6601943a

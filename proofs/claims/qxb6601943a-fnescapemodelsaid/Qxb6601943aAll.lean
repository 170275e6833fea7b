import Derived.Test.Qxb6601943aEnc
namespace Go.Proofs.Qxb6601943a
open Go.RowKit
set_option linter.unusedVariables false

theorem nums_isB (s : ByteArray) : IsB (nums s) := by
  intro x hx
  obtain ⟨c, _, rfl⟩ := List.mem_map.1 hx
  have := c.toNat_lt
  omega

theorem nums_get (s : ByteArray) (k : Nat) (h : k < s.size) : (nums s)[k]'(by rw [nums_length]; exact h) = (s[k].toNat : Int) := by
  simp [nums]
  rfl

theorem nums_str (xs : List Int) (h : IsB xs) : nums (strOfNums xs) = xs := by
  unfold nums
  rw [strOfNums_data, List.map_map]
  conv => rhs; rw [← List.map_id xs]
  apply List.map_congr_left
  intro x hx
  have := h x hx
  show ((UInt8.ofNat x.toNat).toNat : Int) = x
  rw [UInt8.toNat_ofNat']
  omega

theorem str_nums (s : ByteArray) : strOfNums (nums s) = s := by
  unfold strOfNums nums
  rw [List.map_map]
  have : s.data.toList.map ((fun n : Int => UInt8.ofNat n.toNat) ∘ fun c : UInt8 => (c.toNat : Int)) = s.data.toList := by
    conv => rhs; rw [← List.map_id s.data.toList]
    apply List.map_congr_left
    intro c _
    show UInt8.ofNat ((c.toNat : Int)).toNat = c
    simp
  rw [this]

theorem own_made {w : World} {b g cap : Nat} {e : TypeId} (h : w.ownsRow b e 1 (.slice (some ⟨g, 0, none⟩) 0 cap) 0 []) : Own w b (.slice (some ⟨g, 0, none⟩) 0 cap) [] := by
  rcases h.2 with ⟨h1, _⟩ | ⟨g', cap', cur, hv, hb, hg, hn, hm, hs, _⟩
  · cases h1
  · cases hv
    exact Own.empty hb hg hm (by rw [hs, Nat.mul_one])

theorem own_convert {w : World} {b : Nat} {v : Value} {xs : List Int} (h : Own w b v xs) : (convert 36 9 v).run Try.prog w = .ok (.string (strOfNums xs)) w := by
  obtain ⟨g, cap, rfl, _, _, hc⟩ := h.shape
  exact run_convert_bytes_arg w 36 5 Try.underlying36 Try.underlying5 g 0 xs.length cap xs rfl hc 9 Try.underlying9

theorem encAll_snoc (K : Nat → Bool) (xs : List Int) (k : Nat) (h : k < xs.length) : encAll K (xs.take (k + 1)) = encAll K (xs.take k) ++ encByte K xs[k] := by
  rw [List.take_succ_eq_append_getElem h]
  unfold encAll
  rw [List.flatMap_append, List.flatMap_cons, List.flatMap_nil, List.append_nil]

theorem encByte_length (K : Nat → Bool) (c : Int) : (encByte K c).length ≤ 3 := by
  unfold encByte pct
  split <;> simp

theorem encAll_length (K : Nat → Bool) : ∀ (xs : List Int), (encAll K xs).length ≤ 3 * xs.length
  | [] => by simp [encAll]
  | c :: r => by
    have := encAll_length K r
    have := encByte_length K c
    rw [encAll_cons, List.length_append, List.length_cons]
    omega

set_option maxHeartbeats 1000000 in
theorem encodeAll_any (w : World) (kb : Nat) (s : ByteArray) (K : Nat → Bool) (hk : Kept w kb K) (hkb : kb < w.heap.size) (hs : s.size ≤ 2000000) :
    Calls Try.prog 14 #[.string s, .pointer (some ⟨kb, 0, none⟩)] w fun e w' => e = .returned (.string (strOfNums (encAll K (nums s)))) ∧ w.grownBy w' none := by
  obtain ⟨i0, hi, hz0, hz1, hz2⟩ := info_parts Try.info5
  go_enter Try.func14, Try.ntmps14
  go_wp2_with (at_make; refine wpList_make_own _ rfl _ _ 36 rfl w.heap.size 5 i0 (.int .u8 0) 1 Try.underlying36 hi hz0 hz1 _ _ _ s.size rfl rfl (by omega) (by rw [hz2]; omega) (by unfold maxLen; omega) (Nat.le_refl _) ?_; intro w1 ho1 hg1)
  have ho1' : Own w1 w.heap.size (.slice (some ⟨w.heap.size, 0, none⟩) 0 s.size) [] := own_made ho1
  clear ho1
  go_loopw [5, 6] (fun o i wr => ∃ k : Nat, k ≤ s.size ∧ i = .int .i64 (k : Int) ∧ Own wr w.heap.size o (encAll K ((nums s).take k)) ∧ w.grownBy wr none) (fun _ i _ => s.size - (intOf i).toNat)
  case atStart => exact ⟨0, by omega, rfl, ho1', hg1⟩
  case round =>
    obtain ⟨k, hk1, rfl, ho, hg⟩ := hrel
    have hsz := hg.size
    have hl := encAll_length K ((nums s).take k)
    have hl2 : ((nums s).take k).length ≤ k := List.length_take_le _ _
    by_cases hlt : k < s.size
    · go_wp2_with fail
      have hbyte := nums_get s k hlt
      have hb2 := nums_isB s _ (List.getElem_mem (by rw [nums_length]; exact hlt : k < (nums s).length))
      have hsn := encAll_snoc K (nums s) k (by rw [nums_length]; exact hlt)
      rw [hbyte] at hsn hb2
      refine (encodeByte_any _ w.heap.size kb _ _ _ K ho hsz (by omega) (hk.below (grown_below hg) hkb) hb2.1 hb2.2).mono ?_
      rintro e w2 ⟨v2, rfl, ho2, hst2⟩
      rw [← hsn] at ho2
      go_wp2_with fail
      go_roundw
      case rel => exact ⟨k + 1, by omega, by go_num, ho2, grownBy_trans hg hst2.1 (fun j hj => .inr (ho.lt j hj).1)⟩
      case measure => simp [intOf]; omega
    · have hcv := own_convert ho
      have hk' : k = s.size := by omega
      subst hk'
      have HT : Hid ((nums s).take s.size = nums s) := by rw [← nums_length s]; exact List.take_length
      go_wp2_with fail
      go_ret
      exact ⟨by rw [HT.out]; rfl, hg⟩

end Go.Proofs.Qxb6601943a

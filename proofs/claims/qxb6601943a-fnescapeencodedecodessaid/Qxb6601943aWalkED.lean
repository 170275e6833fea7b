import Derived.Test.Qxb6601943aTop
import Derived.Test.Qxb6601943aCanon
namespace Go.Proofs.Qxb6601943a
open Go.RowKit
set_option linter.unusedVariables false

set_option maxHeartbeats 1000000 in
theorem walkED_long (w : World) (s : ByteArray) (cs : Array Value) (K : Nat → Bool) (hK : Bools cs K) (hs : 1048576 < s.size) (hm : s.size ≤ 9223372036854775807) :
    Calls Try.prog 4 #[.string s, .agg cs] w fun e w' => e = .returned (.bool true) ∧ Below w.heap.size w w' := by
  have hinf : (Try.prog.info? 22).map (·.size) = some cs.size := by rw [hK.1]; kernel_rfl
  go_enter Try.func4, Try.ntmps4
  go_wp2_with (refine wpList_load_row rfl 22 _ rfl w.heap.size rfl 22 cs (0, 0) _ (heap_alloc_new w _) Try.underlying22 rfl hinf ?_)
  refine (zzbytes9_no _ s cs hs hm).mono ?_
  rintro e w1 ⟨rfl, hg1⟩
  have hb := ((Below.refl _ w).alloc (Nat.le_refl _) (.cells cs 22)).trans ((grown_below hg1).mono (by simp))
  go_wp2_with fail
  go_ret
  exact ⟨rfl, hb⟩

set_option maxHeartbeats 1000000 in
theorem walkED_kept (w : World) (s : ByteArray) (cs : Array Value) (K : Nat → Bool) (hK : Bools cs K) (hs : s.size ≤ 1048576) (h37 : K 37 = true) :
    Calls Try.prog 4 #[.string s, .agg cs] w fun e w' => e = .returned (.bool true) ∧ Below w.heap.size w w' := by
  have hinf : (Try.prog.info? 22).map (·.size) = some cs.size := by rw [hK.1]; kernel_rfl
  go_enter Try.func4, Try.ntmps4
  go_wp2_with (refine wpList_load_row rfl 22 _ rfl w.heap.size rfl 22 cs (0, 0) _ (heap_alloc_new w _) Try.underlying22 rfl hinf ?_)
  refine (zzbytes9_yes _ s cs hs).mono ?_
  rintro e w1 ⟨rfl, hg1⟩
  have hb := ((Below.refl _ w).alloc (Nat.le_refl _) (.cells cs 22)).trans ((grown_below hg1).mono (by simp))
  have hc37 : w1.cell? ⟨w.heap.size, 37, none⟩ = some (.bool true) := by
    rw [← h37]; exact kept_grown (kept_alloc hK 22) (by simp) hg1 37 (by omega)
  go_wp2_with fail
  go_ret
  exact ⟨rfl, hb⟩

set_option maxHeartbeats 1000000 in
theorem walkED_main (w : World) (s : ByteArray) (cs : Array Value) (K : Nat → Bool) (hK : Bools cs K) (hs : s.size ≤ 1048576) (h37 : K 37 = false) :
    Calls Try.prog 4 #[.string s, .agg cs] w fun e w' => e = .returned (.bool true) ∧ Below w.heap.size w w' := by
  have hinf : (Try.prog.info? 22).map (·.size) = some cs.size := by rw [hK.1]; kernel_rfl
  go_enter Try.func4, Try.ntmps4
  go_wp2_with (refine wpList_load_row rfl 22 _ rfl w.heap.size rfl 22 cs (0, 0) _ (heap_alloc_new w _) Try.underlying22 rfl hinf ?_)
  refine (zzbytes9_yes _ s cs hs).mono ?_
  rintro e w1 ⟨rfl, hg1⟩
  have hb := ((Below.refl _ w).alloc (Nat.le_refl _) (.cells cs 22)).trans ((grown_below hg1).mono (by simp))
  have hk1 := kept_grown (kept_alloc hK 22) (by simp) hg1
  have hkb1 : w.heap.size < w1.heap.size := by have := hg1.size; simp at this; omega
  have hc37 : w1.cell? ⟨w.heap.size, 37, none⟩ = some (.bool false) := by rw [← h37]; exact hk1 37 (by omega)
  go_wp2_with fail
  refine (zzescape_any w1 w.heap.size s K 0 hk1 hkb1 (by omega) (by omega) (by omega)).mono ?_
  rintro e w2 ⟨rfl, hg2⟩
  have hxs := nums_isB s
  have hE : nums (strOfNums (esc K 0 (nums s))) = encAll K (nums s) := by rw [esc_zero, nums_str _ (encAll_isB K _ hxs)]
  have hEl : (strOfNums (esc K 0 (nums s))).size ≤ 20000000 := by
    rw [strOfNums_size, esc_zero]
    have := encAll_length K (nums s)
    rw [nums_length] at this
    omega
  have hcan : canon K (nums (strOfNums (esc K 0 (nums s)))) = true := by rw [hE]; exact canon_encAll K h37 _ hxs
  have HD : Hid (strOfNums (dec (nums (strOfNums (esc K 0 (nums s))))) = s) := by
    show _ = s
    rw [hE, dec_encAll K h37 _ hxs, str_nums]
  have hk2 := kept_grown hk1 hkb1 hg2
  generalize strOfNums (esc K 0 (nums s)) = E at hEl hcan HD ⊢
  clear hE hxs
  have HC : Hid (canon K (nums E) = true) := hcan
  clear hcan
  go_wp2_with fail
  refine (canonical_yes w2 w.heap.size E K hk2 HC.out hEl).mono ?_
  rintro e w3 ⟨rfl, hw3⟩
  obtain rfl := hw3.symm
  go_wp2_with fail
  refine (decodeOnce_any w2 E hEl).mono ?_
  rintro e w4 ⟨rfl, hg4⟩
  rw [HD.out]
  have hss : (s.toList == s.toList) = true := by simp
  go_wp2_with fail
  go_ret
  exact ⟨rfl, (hb.trans ((grown_below hg2).mono (by omega))).trans ((grown_below hg4).mono (by have := hg2.size; omega))⟩

theorem walkED (w : World) (s : ByteArray) (cs : Array Value) (K : Nat → Bool) (hK : Bools cs K) (hm : s.size ≤ 9223372036854775807) :
    Calls Try.prog 4 #[.string s, .agg cs] w fun e w' => e = .returned (.bool true) ∧ Below w.heap.size w w' := by
  rcases Nat.lt_or_ge 1048576 s.size with h | h
  · exact walkED_long w s cs K hK h hm
  · cases h37 : K 37 with
    | true => exact walkED_kept w s cs K hK h h37
    | false => exact walkED_main w s cs K hK h h37

end Go.Proofs.Qxb6601943a

import Derived.Test.Qxb6601943aTop
import Derived.Test.Qxb6601943aKeep
namespace Go.Proofs.Qxb6601943a
open Go.RowKit
set_option linter.unusedVariables false

set_option maxHeartbeats 400000 in
theorem zzbytes6_yes (w : World) (s : ByteArray) (cs : Array Value) (p : Int) (hs : s.size ≤ 1048576) :
    Calls Try.prog 6 #[.string s, .agg cs, .int .i64 p] w fun e w' => e = .returned (.bool true) ∧ w.grownBy w' none := by
  go_enter Try.func6, Try.ntmps6
  go_wp2_with fail
  go_ret
  exact ⟨rfl, World.grownBy_alloc _ _ _⟩

set_option maxHeartbeats 400000 in
theorem zzbytes6_no (w : World) (s : ByteArray) (cs : Array Value) (p : Int) (hs : 1048576 < s.size) (hm : s.size ≤ 9223372036854775807) :
    Calls Try.prog 6 #[.string s, .agg cs, .int .i64 p] w fun e w' => e = .returned (.bool false) ∧ w.grownBy w' none := by
  go_enter Try.func6, Try.ntmps6
  go_wp2_with fail
  go_ret
  exact ⟨rfl, World.grownBy_alloc _ _ _⟩

theorem dec_length : ∀ (xs : List Int), (dec xs).length ≤ xs.length
  | c :: h :: l :: r => by
    have h1 := dec_length r
    have h2 := dec_length (h :: l :: r)
    simp only [dec]
    split
    · simp only [List.length_cons]; omega
    · simp only [List.length_cons] at h2 ⊢; omega
  | [c, d] => Nat.le_refl _
  | [c] => Nat.le_refl _
  | [] => Nat.le_refl _

set_option maxHeartbeats 1000000 in
theorem model_any (w : World) (kb : Nat) (s : ByteArray) (K : Nat → Bool) (p : Int) (hk : Kept w kb K) (hkb : kb < w.heap.size) (hs : s.size ≤ 1048576) (hp0 : 0 ≤ p) (hp2 : p ≤ 2) (h37 : K 37 = false) :
    Calls Try.prog 8 #[.string s, .pointer (some ⟨kb, 0, none⟩), .int .i64 p] w fun e w' => e = .returned (.string (strOfNums (esc K p (nums s)))) ∧ w.grownBy w' none := by
  have hpp : p = 0 ∨ p = 1 ∨ p = 2 := by omega
  rcases hpp with rfl | rfl | rfl
  · have h00 : ((0 : Int) == 0) = true := rfl
    go_enter Try.func8, Try.ntmps8
    go_wp2_with fail
    refine (encodeAll_any w kb s K hk hkb (by omega)).mono ?_
    rintro e w' ⟨rfl, hg⟩
    go_wp2_with fail
    go_ret
    exact ⟨by rw [esc_zero]; rfl, hg⟩
  · go_enter Try.func8, Try.ntmps8
    go_wp2_with fail
    refine (encodeKeep_any w kb s K hk hkb (by omega)).mono ?_
    rintro e w' ⟨rfl, hg⟩
    go_wp2_with fail
    go_ret
    exact ⟨by rw [esc_one]; rfl, hg⟩
  · go_enter Try.func8, Try.ntmps8
    go_wp2_with fail
    refine (decodeOnce_any w s (by omega)).mono ?_
    rintro e w1 ⟨rfl, hg1⟩
    have hk1 := kept_grown hk hkb hg1
    have hsz : (strOfNums (dec (nums s))).size ≤ 2000000 := by
      rw [strOfNums_size]
      have := dec_length (nums s)
      rw [nums_length] at this
      omega
    go_wp2_with fail
    refine (encodeAll_any w1 kb _ K hk1 (Nat.lt_of_lt_of_le hkb hg1.size) hsz).mono ?_
    rintro e w2 ⟨rfl, hg2⟩
    go_wp2_with fail
    go_ret
    refine ⟨?_, grownBy_trans hg1 hg2 (fun k hk => by cases hk)⟩
    rw [esc_two K h37, nums_str _ (dec_isB _ (nums_isB s))]
    rfl

set_option maxHeartbeats 1000000 in
theorem walkEM_long (w : World) (s : ByteArray) (cs : Array Value) (p : Int) (K : Nat → Bool) (hK : Bools cs K) (hs : 1048576 < s.size) (hm : s.size ≤ 9223372036854775807) :
    Calls Try.prog 3 #[.string s, .agg cs, .int .i64 p] w fun e w' => e = .returned (.bool true) ∧ Below w.heap.size w w' := by
  have hinf : (Try.prog.info? 22).map (·.size) = some cs.size := by rw [hK.1]; kernel_rfl
  go_enter Try.func3, Try.ntmps3
  go_wp2_with (refine wpList_load_row rfl 22 _ rfl w.heap.size rfl 22 cs (0, 0) _ (heap_alloc_new w _) Try.underlying22 rfl hinf ?_)
  refine (zzbytes6_no _ s cs p hs hm).mono ?_
  rintro e w1 ⟨rfl, hg1⟩
  have hb := ((Below.refl _ w).alloc (Nat.le_refl _) (.cells cs 22)).trans ((grown_below hg1).mono (by simp))
  go_wp2_with fail
  go_ret
  exact ⟨rfl, hb⟩

set_option maxHeartbeats 1000000 in
theorem walkEM_off (w : World) (s : ByteArray) (cs : Array Value) (p : Int) (K : Nat → Bool) (hK : Bools cs K) (hs : s.size ≤ 1048576) (hp : p < 0 ∨ 2 < p) :
    Calls Try.prog 3 #[.string s, .agg cs, .int .i64 p] w fun e w' => e = .returned (.bool true) ∧ Below w.heap.size w w' := by
  have hinf : (Try.prog.info? 22).map (·.size) = some cs.size := by rw [hK.1]; kernel_rfl
  rcases hp with hp | hp
  · go_enter Try.func3, Try.ntmps3
    go_wp2_with (refine wpList_load_row rfl 22 _ rfl w.heap.size rfl 22 cs (0, 0) _ (heap_alloc_new w _) Try.underlying22 rfl hinf ?_)
    refine (zzbytes6_yes _ s cs p hs).mono ?_
    rintro e w1 ⟨rfl, hg1⟩
    have hb := ((Below.refl _ w).alloc (Nat.le_refl _) (.cells cs 22)).trans ((grown_below hg1).mono (by simp))
    go_wp2_with fail
    go_ret
    exact ⟨rfl, hb⟩
  · have hp' : ¬ p < 0 := by omega
    go_enter Try.func3, Try.ntmps3
    go_wp2_with (refine wpList_load_row rfl 22 _ rfl w.heap.size rfl 22 cs (0, 0) _ (heap_alloc_new w _) Try.underlying22 rfl hinf ?_)
    refine (zzbytes6_yes _ s cs p hs).mono ?_
    rintro e w1 ⟨rfl, hg1⟩
    have hb := ((Below.refl _ w).alloc (Nat.le_refl _) (.cells cs 22)).trans ((grown_below hg1).mono (by simp))
    go_wp2_with fail
    go_ret
    exact ⟨rfl, hb⟩

set_option maxHeartbeats 1000000 in
theorem walkEM_kept (w : World) (s : ByteArray) (cs : Array Value) (p : Int) (K : Nat → Bool) (hK : Bools cs K) (hs : s.size ≤ 1048576) (hp0 : 0 ≤ p) (hp2 : p ≤ 2) (h37 : K 37 = true) :
    Calls Try.prog 3 #[.string s, .agg cs, .int .i64 p] w fun e w' => e = .returned (.bool true) ∧ Below w.heap.size w w' := by
  have hinf : (Try.prog.info? 22).map (·.size) = some cs.size := by rw [hK.1]; kernel_rfl
  go_enter Try.func3, Try.ntmps3
  go_wp2_with (refine wpList_load_row rfl 22 _ rfl w.heap.size rfl 22 cs (0, 0) _ (heap_alloc_new w _) Try.underlying22 rfl hinf ?_)
  refine (zzbytes6_yes _ s cs p hs).mono ?_
  rintro e w1 ⟨rfl, hg1⟩
  have hb := ((Below.refl _ w).alloc (Nat.le_refl _) (.cells cs 22)).trans ((grown_below hg1).mono (by simp))
  have hc37 : w1.cell? ⟨w.heap.size, 37, none⟩ = some (.bool true) := by
    rw [← h37]; exact kept_grown (kept_alloc hK 22) (by simp) hg1 37 (by omega)
  go_wp2_with fail
  go_ret
  exact ⟨rfl, hb⟩

set_option maxHeartbeats 1000000 in
theorem walkEM_main (w : World) (s : ByteArray) (cs : Array Value) (p : Int) (K : Nat → Bool) (hK : Bools cs K) (hs : s.size ≤ 1048576) (hp0 : 0 ≤ p) (hp2 : p ≤ 2) (h37 : K 37 = false) :
    Calls Try.prog 3 #[.string s, .agg cs, .int .i64 p] w fun e w' => e = .returned (.bool true) ∧ Below w.heap.size w w' := by
  have hinf : (Try.prog.info? 22).map (·.size) = some cs.size := by rw [hK.1]; kernel_rfl
  go_enter Try.func3, Try.ntmps3
  go_wp2_with (refine wpList_load_row rfl 22 _ rfl w.heap.size rfl 22 cs (0, 0) _ (heap_alloc_new w _) Try.underlying22 rfl hinf ?_)
  refine (zzbytes6_yes _ s cs p hs).mono ?_
  rintro e w1 ⟨rfl, hg1⟩
  have hb := ((Below.refl _ w).alloc (Nat.le_refl _) (.cells cs 22)).trans ((grown_below hg1).mono (by simp))
  have hk1 := kept_grown (kept_alloc hK 22) (by simp) hg1
  have hkb1 : w.heap.size < w1.heap.size := by have := hg1.size; simp at this; omega
  have hc37 : w1.cell? ⟨w.heap.size, 37, none⟩ = some (.bool false) := by rw [← h37]; exact hk1 37 (by omega)
  go_wp2_with fail
  refine (zzescape_any w1 w.heap.size s K p hk1 hkb1 (by omega) hp0 hp2).mono ?_
  rintro e w2 ⟨rfl, hg2⟩
  have hk2 := kept_grown hk1 hkb1 hg2
  have hkb2 : w.heap.size < w2.heap.size := by have := hg2.size; omega
  go_wp2_with fail
  refine (model_any w2 w.heap.size s K p hk2 hkb2 hs hp0 hp2 h37).mono ?_
  rintro e w3 ⟨rfl, hg3⟩
  generalize strOfNums (esc K p (nums s)) = E
  have hss : (E.toList == E.toList) = true := by simp
  go_wp2_with fail
  go_ret
  exact ⟨rfl, (hb.trans ((grown_below hg2).mono (by omega))).trans ((grown_below hg3).mono (by omega))⟩

theorem walkEM (w : World) (s : ByteArray) (cs : Array Value) (p : Int) (K : Nat → Bool) (hK : Bools cs K) (hm : s.size ≤ 9223372036854775807) :
    Calls Try.prog 3 #[.string s, .agg cs, .int .i64 p] w fun e w' => e = .returned (.bool true) ∧ Below w.heap.size w w' := by
  rcases Nat.lt_or_ge 1048576 s.size with h | h
  · exact walkEM_long w s cs p K hK h hm
  · by_cases hp : p < 0 ∨ 2 < p
    · exact walkEM_off w s cs p K hK h hp
    · cases h37 : K 37 with
      | true => exact walkEM_kept w s cs p K hK h (by omega) (by omega) h37
      | false => exact walkEM_main w s cs p K hK h (by omega) (by omega) h37

end Go.Proofs.Qxb6601943a

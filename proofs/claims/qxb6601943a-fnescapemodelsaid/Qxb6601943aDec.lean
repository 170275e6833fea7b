import Derived.Test.Qxb6601943aAll
namespace Go.Proofs.Qxb6601943a
open Go.RowKit
set_option linter.unusedVariables false

/-- Byte k of s, as the walk's index yields it. -/
theorem index_is (s : ByteArray) (k : Nat) (x : Int) (c : Int) (hx : x = (k : Int)) (h : k < s.size) (hc : (nums s)[k]? = some c) : ∀ wx, (Instr.index 9 (.string s) (.int .i64 x)).run Try.prog wx = .ok (.int .u8 c) wx := by
  intro wx
  subst hx
  rw [run_index_string wx 9 s .i64 k Try.underlying9, dif_pos (by omega)]
  have hl : k < (nums s).length := by rw [nums_length]; exact h
  rw [List.getElem?_eq_getElem hl, nums_get s k h] at hc
  cases hc
  simp

theorem drop_three (xs : List Int) (k : Nat) (h : k + 2 < xs.length) : ∃ c h l, xs.drop k = c :: h :: l :: xs.drop (k + 3) ∧ xs[k]? = some c ∧ xs[k + 1]? = some h ∧ xs[k + 2]? = some l := by
  refine ⟨xs[k], xs[k + 1], xs[k + 2], ?_, by simp, by simp, by simp⟩
  rw [List.drop_eq_getElem_cons (show k < xs.length by omega), List.drop_eq_getElem_cons (show k + 1 < xs.length by omega), List.drop_eq_getElem_cons h]

theorem drop_one (xs : List Int) (k : Nat) (h : k < xs.length) : ∃ c, xs.drop k = c :: xs.drop (k + 1) ∧ xs[k]? = some c :=
  ⟨xs[k], by rw [List.drop_eq_getElem_cons h], by simp⟩

theorem isB_get {xs : List Int} (h : IsB xs) {k : Nat} {c : Int} (hc : xs[k]? = some c) : 0 ≤ c ∧ c < 256 := h c (List.mem_of_getElem? hc)

theorem dec_short (c : Int) (r : List Int) (h : r.length < 2) : dec (c :: r) = c :: dec r := by
  match r, h with
  | [], _ => rfl
  | [d], _ => rfl

set_option maxHeartbeats 1000000 in
theorem decodeOnce_any (w : World) (s : ByteArray) (hs : s.size ≤ 20000000) :
    Calls Try.prog 11 #[.string s] w fun e w' => e = .returned (.string (strOfNums (dec (nums s)))) ∧ w.grownBy w' none := by
  obtain ⟨i0, hi, hz0, hz1, hz2⟩ := info_parts Try.info5
  go_enter Try.func11, Try.ntmps11
  go_wp2_with (at_make; refine wpList_make_own _ rfl _ _ 36 rfl w.heap.size 5 i0 (.int .u8 0) 1 Try.underlying36 hi hz0 hz1 _ _ _ s.size rfl rfl (by omega) (by rw [hz2]; omega) (by unfold maxLen; omega) (Nat.le_refl _) ?_; intro w1 ho1 hg1)
  have ho1' : Own w1 w.heap.size (.slice (some ⟨w.heap.size, 0, none⟩) 0 s.size) [] := own_made ho1
  clear ho1
  go_loopw [3, 4] (fun o i wr => ∃ (k : Nat) (out : List Int), k ≤ s.size ∧ i = .int .i64 (k : Int) ∧ Own wr w.heap.size o out ∧ out ++ dec ((nums s).drop k) = dec (nums s) ∧ out.length ≤ k ∧ w.grownBy wr none) (fun _ i _ => s.size - (intOf i).toNat)
  case atStart => exact ⟨0, [], by omega, rfl, ho1', rfl, by simp, hg1⟩
  case round =>
    obtain ⟨k, out, hk1, rfl, ho, heq, hol, hg⟩ := hrel
    have hsz := hg.size
    have hnl := nums_length s
    by_cases hlt : k < s.size
    · by_cases h3 : k + 2 < s.size
      · obtain ⟨c, ch, cl, hd, hc0, hc1, hc2⟩ := drop_three (nums s) k (by omega)
        have hi0 := index_is s k k c rfl hlt hc0
        have hi1 := index_is s (k + 1) (k + 1) ch rfl (by omega) hc1
        have hi2 := index_is s (k + 2) (k + 2) cl rfl (by omega) hc2
        have hb0 := isB_get (nums_isB s) hc0
        have hb1 := isB_get (nums_isB s) hc1
        have hb2 := isB_get (nums_isB s) hc2
        rw [hd] at heq
        have hd1 : (nums s).drop (k + 1) = ch :: cl :: (nums s).drop (k + 3) := by
          rw [← List.drop_drop, hd]; rfl
        have hv1 := hexVal_lt ch
        have hv2 := hexVal_lt cl
        clear hd hc0 hc1 hc2 hnl
        by_cases hp : c = 37
        · subst hp
          by_cases hx : 0 ≤ hexVal ch ∧ 0 ≤ hexVal cl
          · have HQ : Hid (out ++ [hexVal ch * 16 + hexVal cl] ++ dec ((nums s).drop (k + 3)) = dec (nums s)) := by
              rw [← heq, dec, if_pos ⟨rfl, hx⟩, List.append_assoc]; rfl
            obtain ⟨hx1, hx2⟩ := hx
            clear heq hd1
            go_wp2_with fail
            refine (hexVal_any _ _ hb1.1 hb1.2).mono ?_
            rintro e w2 ⟨rfl, hw2⟩
            subst hw2
            go_wp2_with fail
            refine (hexVal_any _ _ hb2.1 hb2.2).mono ?_
            rintro e w2 ⟨rfl, hw2⟩
            subst hw2
            generalize hexVal ch = H at hx1 hv1 HQ ⊢
            generalize hexVal cl = L at hx2 hv2 HQ ⊢
            go_wp2_with (at_builtin; refine wpList_append_bytes _ rfl (.tmp 41) (.tmp 47) 36 36 rfl w.heap.size 5 i0 Try.underlying36 hi hz0 hz1 hz2 u3 _ out [H * 16 + L] rfl rfl (ho.alloc _) (SrcB.lit Try.underlying36 _ [H * 16 + L] 5) (by simp; omega) (by simp; omega) ?_; intro v' w' ho' hst)
            go_roundw
            case rel =>
              have hst' := Step.before (World.grownBy_alloc _ _ _) hst
              exact ⟨k + 3, _, by omega, by go_num, ho', HQ.out, by simp; omega, grownBy_trans hg hst'.1 (fun j hj => .inr (ho.lt j hj).1)⟩
            case measure => simp [intOf]; omega
          · have HQ : Hid (out ++ [37] ++ dec ((nums s).drop (k + 1)) = dec (nums s)) := by
              rw [← heq, dec, if_neg (fun h => hx h.2), List.append_assoc, hd1]; rfl
            clear heq hd1
            have hx' : hexVal ch < 0 ∨ (0 ≤ hexVal ch ∧ hexVal cl < 0) := by omega
            clear hx
            go_wp2_with fail
            refine (hexVal_any _ _ hb1.1 hb1.2).mono ?_
            rintro e w2 ⟨rfl, hw2⟩
            subst hw2
            go_wp2_with fail
            refine (hexVal_any _ _ hb2.1 hb2.2).mono ?_
            rintro e w2 ⟨rfl, hw2⟩
            subst hw2
            generalize hexVal ch = H at hx' hv1 ⊢
            generalize hexVal cl = L at hx' hv2 ⊢
            rcases hx' with hx1 | ⟨hx1, hx2⟩
            all_goals
              go_wp2_with (at_builtin; refine wpList_append_bytes _ rfl (.tmp 51) (.tmp 55) 36 36 rfl w.heap.size 5 i0 Try.underlying36 hi hz0 hz1 hz2 u3 _ out [37] rfl rfl (ho.alloc _) (SrcB.lit Try.underlying36 _ [37] 5) (by simp; omega) (by simp; omega) ?_; intro v' w' ho' hst)
              go_roundw
              case rel =>
                have hst' := Step.before (World.grownBy_alloc _ _ _) hst
                exact ⟨k + 1, _, by omega, by go_num, ho', HQ.out, by simp; omega, grownBy_trans hg hst'.1 (fun j hj => .inr (ho.lt j hj).1)⟩
              case measure => simp [intOf]; omega
        · have hpe : (c == 37) = false := by simp [hp]
          have HQ : Hid (out ++ [c] ++ dec ((nums s).drop (k + 1)) = dec (nums s)) := by
            rw [← heq, dec_other c _ hp, List.append_assoc, hd1]; rfl
          clear heq hd1 hp
          go_wp2_with (at_builtin; refine wpList_append_bytes _ rfl (.tmp 51) (.tmp 55) 36 36 rfl w.heap.size 5 i0 Try.underlying36 hi hz0 hz1 hz2 u3 _ out [c] rfl rfl (ho.alloc _) (SrcB.lit Try.underlying36 _ [c] 5) (by simp; omega) (by simp; omega) ?_; intro v' w' ho' hst)
          go_roundw
          case rel =>
            have hst' := Step.before (World.grownBy_alloc _ _ _) hst
            exact ⟨k + 1, _, by omega, by go_num, ho', HQ.out, by simp; omega, grownBy_trans hg hst'.1 (fun j hj => .inr (ho.lt j hj).1)⟩
          case measure => simp [intOf]; omega
      · obtain ⟨c, hd, hc0⟩ := drop_one (nums s) k (by omega)
        have hi0 := index_is s k k c rfl hlt hc0
        have HQ : Hid (out ++ [c] ++ dec ((nums s).drop (k + 1)) = dec (nums s)) := by
          rw [← heq, hd, dec_short c _ (by rw [List.length_drop]; omega), List.append_assoc]; rfl
        clear heq hd hc0 hnl
        have hp : c = 37 ∨ (c == 37) = false := by
          by_cases h : c = 37
          · exact .inl h
          · exact .inr (by simp [h])
        rcases hp with hp | hp
        all_goals
          first | subst hp | skip
          go_wp2_with (at_builtin; refine wpList_append_bytes _ rfl (.tmp 51) (.tmp 55) 36 36 rfl w.heap.size 5 i0 Try.underlying36 hi hz0 hz1 hz2 u3 _ out [_] rfl rfl (ho.alloc _) (SrcB.lit Try.underlying36 _ [_] 5) (by simp; omega) (by simp; omega) ?_; intro v' w' ho' hst)
          go_roundw
          case rel =>
            have hst' := Step.before (World.grownBy_alloc _ _ _) hst
            exact ⟨k + 1, _, by omega, by go_num, ho', HQ.out, by simp; omega, grownBy_trans hg hst'.1 (fun j hj => .inr (ho.lt j hj).1)⟩
          case measure => simp [intOf]; omega
    · have hcv := own_convert ho
      have HT : Hid (out = dec (nums s)) := by
        rw [List.drop_of_length_le (by omega)] at heq
        show out = dec (nums s)
        simpa [dec] using heq
      clear heq
      go_wp2_with fail
      go_ret
      exact ⟨by rw [← HT.out]; rfl, hg⟩

end Go.Proofs.Qxb6601943a

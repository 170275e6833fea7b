import Derived.Test.Qxb6601943aDec
import Derived.Deep.DeepCutAuto
import Derived.Deep.RegionHeld3
namespace Go.Proofs.Qxb6601943a
open Go.RowKit
set_option linter.unusedVariables false

theorem keep_view (K : Nat → Bool) (c : Int) (r : List Int) :
    (∃ a l r', K c.toNat = false ∧ c = 37 ∧ r = a :: l :: r' ∧ 0 ≤ hexVal a ∧ 0 ≤ hexVal l ∧ encKeep K (c :: r) = c :: a :: l :: encKeep K r') ∨
    (encKeep K (c :: r) = encByte K c ++ encKeep K r ∧ (K c.toNat = true ∨ (K c.toNat = false ∧ c ≠ 37) ∨ (K c.toNat = false ∧ c = 37 ∧ r.length < 2) ∨ ∃ a l r', K c.toNat = false ∧ c = 37 ∧ r = a :: l :: r' ∧ (hexVal a < 0 ∨ (0 ≤ hexVal a ∧ hexVal l < 0)))) := by
  have hb : K c.toNat = true ∨ K c.toNat = false := by cases K c.toNat <;> simp
  match r with
  | [] =>
    refine .inr ⟨by simp [encKeep], ?_⟩
    rcases hb with h | h
    · exact .inl h
    · by_cases hc : c = 37
      · exact .inr (.inr (.inl ⟨h, hc, by simp⟩))
      · exact .inr (.inl ⟨h, hc⟩)
  | [d] =>
    refine .inr ⟨by simp [encKeep], ?_⟩
    rcases hb with h | h
    · exact .inl h
    · by_cases hc : c = 37
      · exact .inr (.inr (.inl ⟨h, hc, by simp⟩))
      · exact .inr (.inl ⟨h, hc⟩)
  | a :: l :: r =>
    by_cases hx : K c.toNat = false ∧ c = 37 ∧ 0 ≤ hexVal a ∧ 0 ≤ hexVal l
    · exact .inl ⟨a, l, r, hx.1, hx.2.1, rfl, hx.2.2.1, hx.2.2.2, by rw [encKeep, if_pos hx]⟩
    · refine .inr ⟨by rw [encKeep, if_neg hx], ?_⟩
      rcases hb with h | h
      · exact .inl h
      · by_cases hc : c = 37
        · exact .inr (.inr (.inr ⟨a, l, r, h, hc, rfl, by
            have : ¬ (0 ≤ hexVal a ∧ 0 ≤ hexVal l) := fun h' => hx ⟨h, hc, h'⟩
            omega⟩))
        · exact .inr (.inl ⟨h, hc⟩)

theorem keep_litD {P : Program} {tx e : TypeId} (hk : P.underlying tx = some (.slice e)) (w : World) (H : Nat) (hH : w.heap.size = H) (ys : List Int) (tag : TypeId) : SrcB P tx (.slice (some ⟨H, 0, none⟩) ys.length ys.length) ys (w.alloc (.cells (ys.map (Value.int .u8)).toArray tag)).drew := by
  subst hH
  refine Src.ofSlice _ hk ⟨w.heap.size, 0, none⟩ ys.length ys.length _ (by simp) (fun j u hu => ?_) (ints_oneCell _ _)
  have hadd : (⟨w.heap.size, 0, none⟩ : Addr).add j = ⟨w.heap.size, j, none⟩ := by unfold Addr.add; split <;> simp_all
  rw [hadd]
  show (w.alloc _).cell? _ = _
  rw [cell_of_row _ _ j _ tag (0, 0) (heap_alloc_new w _)]
  simpa using hu

theorem keep_grown {w wr w4 : World} {v v4 : Value} {o : Obj} (hg : w.grownBy wr none) (hst : Step (wr.alloc o).drew w4 v v4) (hv : ∀ j, v.ownBlock = some j → w.heap.size ≤ j) : w.grownBy w4 none := by
  have h1 := grownBy_trans hg (World.grownBy_alloc wr o none) (fun k hk => by cases hk)
  have h2 : w.grownBy (wr.alloc o).drew none := ⟨h1.os, h1.tape, h1.output, h1.size, h1.block⟩
  exact grownBy_trans h2 hst.1 (fun k hk => .inr (hv k hk))

set_option maxRecDepth 100000 in
set_option maxHeartbeats 2000000 in
theorem encodeKeep_any (w : World) (kb : Nat) (s : ByteArray) (K : Nat → Bool) (hk : Kept w kb K) (hkb : kb < w.heap.size) (hs : s.size ≤ 2000000) :
    Calls Try.prog 15 #[.string s, .pointer (some ⟨kb, 0, none⟩)] w fun e w' => e = .returned (.string (strOfNums (encKeep K (nums s)))) ∧ w.grownBy w' none := by
  obtain ⟨i0, hi, hz0, hz1, hz2⟩ := info_parts Try.info5
  go_enter Try.func15, Try.ntmps15
  go_wp2_with (at_make; refine wpList_make_own _ rfl _ _ 36 rfl w.heap.size 5 i0 (.int .u8 0) 1 Try.underlying36 hi hz0 hz1 _ _ _ s.size rfl rfl (by omega) (by rw [hz2]; omega) (by unfold maxLen; omega) (Nat.le_refl _) ?_; intro w1 ho1 hg1)
  have ho1' : Own w1 w.heap.size (.slice (some ⟨w.heap.size, 0, none⟩) 0 s.size) [] := own_made ho1
  clear ho1
  go_loopw [5, 6] (fun o i wr => ∃ (k : Nat) (out : List Int), k ≤ s.size ∧ i = .int .i64 (k : Int) ∧ Own wr w.heap.size o out ∧ out ++ encKeep K ((nums s).drop k) = encKeep K (nums s) ∧ out.length ≤ 3 * k ∧ w.grownBy wr none) (fun _ i _ => s.size - (intOf i).toNat)
  case atStart => exact ⟨0, [], by omega, rfl, ho1', rfl, by simp, hg1⟩
  case round =>
    obtain ⟨k, out, hk1, rfl, ho, heq, hol, hg⟩ := hrel
    have hsz := hg.size
    have hnl := nums_length s
    by_cases hlt : k < s.size
    · obtain ⟨c, hd, hc0⟩ := drop_one (nums s) k (by omega)
      have hix0 := index_is s k k c rfl hlt hc0
      have hb0 := isB_get (nums_isB s) hc0
      have hkw := hk.below (grown_below hg) hkb
      have hcell := hkw c.toNat (by omega)
      rw [hd] at heq
      rcases keep_view K c ((nums s).drop (k + 1)) with ⟨ch, cl, r', hkc, hceq, hr, hh, hl, hesc⟩ | ⟨hesc, hwhy⟩
      · rw [hr] at hd
        have hlen2 : k + 2 < s.size := by
          have := congrArg List.length hr
          rw [List.length_drop] at this
          simp at this
          omega
        have hc1 : (nums s)[k + 1]? = some ch := by
          have := congrArg (fun l : List Int => l[0]?) hr
          simpa using this
        have hc2 : (nums s)[k + 2]? = some cl := by
          have := congrArg (fun l : List Int => l[1]?) hr
          simpa [Nat.add_assoc] using this
        have hi1 := index_is s (k + 1) (k + 1) ch rfl (by omega) hc1
        have hi2 := index_is s (k + 2) (k + 2) cl rfl (by omega) hc2
        have hb1 := isB_get (nums_isB s) hc1
        have hb2 := isB_get (nums_isB s) hc2
        have hce : (c == 37) = true := by simp [hceq]
        have HR : Hid (r' = (nums s).drop (k + 3)) := by
          show r' = _
          rw [← List.drop_drop, hd]; rfl
        have HQ : Hid (out ++ [c, ch, cl] ++ encKeep K ((nums s).drop (k + 3)) = encKeep K (nums s)) := by
          show _ = _
          rw [← HR.out, ← heq, hesc, List.append_assoc]; rfl
        rw [hkc] at hcell
        clear heq hd hr hc0 hc1 hc2 hnl hceq hkc hesc hkw
        have hdg1 : decide (0 ≤ hexVal ch) = true := by rw [decide_eq_true_eq]; exact hh
        go_wp2_with fail
        refine (hexVal_any _ _ hb1.1 hb1.2).mono ?_
        rintro e w2 ⟨rfl, hw2⟩
        obtain rfl := hw2.symm
        go_wp2_with fail
        refine (hexVal_any _ _ hb2.1 hb2.2).mono ?_
        rintro e w2 ⟨rfl, hw2⟩
        obtain rfl := hw2.symm
        have hkI1 : (k : Int) + 1 < (s.size : Int) := by omega
        have hkI2 : (k : Int) + 2 < (s.size : Int) := by omega
        have hwk1 : IntKind.i64.wrap ((k : Int) + 1) = (k : Int) + 1 := by rw [IntKind.wrap_i64]; omega
        have hwk2 : IntKind.i64.wrap ((k : Int) + 2) = (k : Int) + 2 := by rw [IntKind.wrap_i64]; omega
        go_upto_region 6 with fail
        go_cut [5] (fun o wx => Own wx w.heap.size o (out ++ [c, ch, cl]) ∧ w.grownBy wx none)
        case first =>
          go_region_held3 (fun w' => True) (trivial) ((refine step_append_bytes _ (by rfl) _ _ 36 36 (by rfl) w.heap.size 5 i0 Try.underlying36 hi hz0 hz1 hz2 u5 _ out [c, ch, cl] (by rfl) (by rfl) (by exact ho.alloc _) (by exact keep_litD Try.underlying36 wr wr.heap.size rfl [c, ch, cl] 5) (by simp; omega) (by simp; omega) ?_; intro v4 w4 ho4 hst4))
          all_goals
            go_wp2_with fail
            go_meet
            case rel => exact ⟨ho4, keep_grown hg hst4 (fun j hj => (ho.lt j hj).1)⟩
        case rest =>
          obtain ⟨ho3, hg3⟩ := hcut
          go_wp2_with fail
          go_roundw
          case rel => exact ⟨k + 3, out ++ [c, ch, cl], by omega, by go_num, ho3, HQ.out, by simp; omega, hg3⟩
          case measure => simp [intOf]; omega
      · have HQ : Hid (out ++ encByte K c ++ encKeep K ((nums s).drop (k + 1)) = encKeep K (nums s)) := by
          show _ = _
          rw [← heq, hesc, List.append_assoc]
        clear heq hesc
        have hel := encByte_length K c
        go_upto_region 5 with fail
        go_cut [50] (fun s50 wx => s50 = .bool false ∧ wr = wx)
        case first =>
          rcases hwhy with hn | ⟨hkc, hn⟩ | ⟨hkc, hn, hlen⟩ | ⟨ch, cl, r', hkc, hn, hr, hx⟩
          · rw [hn] at hcell
            clear hn hd hc0 hkw
            go_wp2_with fail
            go_meet
            case rel => exact ⟨rfl, rfl⟩
          · rw [hkc] at hcell
            have hne : (c == 37) = false := by simp [hn]
            clear hn hkc hd hc0 hkw
            go_wp2_with fail
            go_meet
            case rel => exact ⟨rfl, rfl⟩
          · rw [hkc] at hcell
            have hne : (c == 37) = true := by simp [hn]
            rw [List.length_drop, hnl] at hlen
            have hdd : decide ((k : Int) + 2 < (s.size : Int)) = false := by rw [decide_eq_false_iff_not]; omega
            clear hn hkc hd hc0 hkw
            go_wp2_with fail
            go_meet
            case rel => exact ⟨rfl, rfl⟩
          · rw [hkc] at hcell
            have hne : (c == 37) = true := by simp [hn]
            rw [hr] at hd
            have hlen2 : k + 2 < s.size := by
              have := congrArg List.length hr
              rw [List.length_drop] at this
              simp at this
              omega
            have hc1 : (nums s)[k + 1]? = some ch := by
              have := congrArg (fun l : List Int => l[0]?) hr
              simpa using this
            have hc2 : (nums s)[k + 2]? = some cl := by
              have := congrArg (fun l : List Int => l[1]?) hr
              simpa [Nat.add_assoc] using this
            have hi1 := index_is s (k + 1) (k + 1) ch rfl (by omega) hc1
            have hi2 := index_is s (k + 2) (k + 2) cl rfl (by omega) hc2
            have hb1 := isB_get (nums_isB s) hc1
            have hb2 := isB_get (nums_isB s) hc2
            clear hn hkc hd hr hc0 hc1 hc2 hnl hkw
            rcases hx with hx | ⟨hx, hx2⟩
            · go_wp2_with fail
              refine (hexVal_any _ _ hb1.1 hb1.2).mono ?_
              rintro e w2 ⟨rfl, hw2⟩
              obtain rfl := hw2.symm
              have hdg : decide (0 ≤ hexVal ch) = false := by rw [decide_eq_false_iff_not]; omega
              go_wp2_with fail
              go_meet
              case rel => exact ⟨rfl, rfl⟩
            · go_wp2_with fail
              refine (hexVal_any _ _ hb1.1 hb1.2).mono ?_
              rintro e w2 ⟨rfl, hw2⟩
              obtain rfl := hw2.symm
              have hdg : decide (0 ≤ hexVal ch) = true := by rw [decide_eq_true_eq]; exact hx
              go_wp2_with fail
              refine (hexVal_any _ _ hb2.1 hb2.2).mono ?_
              rintro e w2 ⟨rfl, hw2⟩
              obtain rfl := hw2.symm
              have hdg2 : decide (0 ≤ hexVal cl) = false := by rw [decide_eq_false_iff_not]; omega
              go_wp2_with fail
              go_meet
              case rel => exact ⟨rfl, rfl⟩
        case rest =>
          obtain ⟨rfl, rfl⟩ := hcut
          clear hwhy hd hc0 hnl hcell
          go_wp2_with fail
          refine (encodeByte_any _ w.heap.size kb _ _ _ K ho hsz (by omega) hkw hb0.1 hb0.2).mono ?_
          rintro e w2 ⟨v2, rfl, ho2, hst2⟩
          go_wp2_with fail
          go_roundw
          case rel => exact ⟨k + 1, out ++ encByte K c, by omega, by go_num, ho2, HQ.out, by rw [List.length_append]; omega, grownBy_trans hg hst2.1 (fun j hj => .inr (ho.lt j hj).1)⟩
          case measure => simp [intOf]; omega
    · have hcv := own_convert ho
      have HT : Hid (out = encKeep K (nums s)) := by
        rw [List.drop_of_length_le (by omega)] at heq
        show out = encKeep K (nums s)
        simpa [encKeep] using heq
      clear heq
      go_wp2_with fail
      go_ret
      exact ⟨by rw [← HT.out]; rfl, hg⟩

end Go.Proofs.Qxb6601943a

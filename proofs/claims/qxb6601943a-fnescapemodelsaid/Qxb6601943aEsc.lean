import Derived.Test.Qxb6601943aDec
import Derived.Deep.DeepCutAuto
import Derived.Deep.RegionHeld3
import Derived.Deep.QuietTactic
import Derived.BigQuiet
namespace Go.Proofs.Qxb6601943a
open Go.RowKit
set_option linter.unusedVariables false

/-- The loop's state: what has been written so far. -/
def Rel (w : World) (B : Nat) (xs : List Int) (b : Value) (k : Nat) (out : List Int) (wr : World) : Prop :=
  (b = .slice none 0 0 ∧ out = xs.take k ∧ Own wr B (.slice (some ⟨B, 0, none⟩) 0 64) []) ∨ Own wr B b out

theorem esc_kept (K : Nat → Bool) (p c : Int) (r : List Int) (h : K c.toNat = true) : esc K p (c :: r) = c :: esc K p r := by
  match r with
  | [] => simp [esc, encByte_yes h]
  | [d] => simp [esc, encByte_yes h]
  | a :: l :: r => simp [esc, h]

/-- A byte that is not kept: an escape that the rule looks at, or a byte that is written by its number. -/
theorem esc_view (K : Nat → Bool) (p c : Int) (r : List Int) (h : K c.toNat = false) :
    (∃ a l r', c = 37 ∧ p ≠ 0 ∧ r = a :: l :: r' ∧ 0 ≤ hexVal a ∧ 0 ≤ hexVal l) ∨
    (esc K p (c :: r) = pct c ++ esc K p r ∧ (c ≠ 37 ∨ (c = 37 ∧ p = 0) ∨ (c = 37 ∧ p ≠ 0 ∧ r.length < 2) ∨ ∃ a l r', c = 37 ∧ p ≠ 0 ∧ r = a :: l :: r' ∧ (hexVal a < 0 ∨ (0 ≤ hexVal a ∧ hexVal l < 0)))) := by
  match r with
  | [] => exact .inr ⟨by simp [esc, encByte_no h], by by_cases hc : c = 37 <;> by_cases hp : p = 0 <;> simp [hc, hp]⟩
  | [d] =>
    refine .inr ⟨by simp [esc, encByte_no h], by by_cases hc : c = 37 <;> by_cases hp : p = 0 <;> simp [hc, hp]⟩
  | a :: l :: r =>
    by_cases hx : c = 37 ∧ p ≠ 0 ∧ 0 ≤ hexVal a ∧ 0 ≤ hexVal l
    · exact .inl ⟨a, l, r, hx.1, hx.2.1, rfl, hx.2.2⟩
    · refine .inr ⟨by rw [esc, if_neg (by simp [h]), if_neg hx], ?_⟩
      by_cases hc : c = 37
      · by_cases hp : p = 0
        · exact .inr (.inl ⟨hc, hp⟩)
        · exact .inr (.inr (.inr ⟨a, l, r, hc, hp, rfl, by
            have : ¬ (0 ≤ hexVal a ∧ 0 ≤ hexVal l) := fun h' => hx ⟨hc, hp, h'⟩
            omega⟩))
      · exact .inl hc

theorem isHexB_yes {c : Int} (h : 0 ≤ hexVal c) : isHexB c = true := by unfold isHexB; rw [decide_eq_true_eq]; exact h
theorem isHexB_no {c : Int} (h : hexVal c < 0) : isHexB c = false := by unfold isHexB; rw [decide_eq_false_iff_not]; omega

theorem srcB_litD {P : Program} {tx e : TypeId} (hk : P.underlying tx = some (.slice e)) (w : World) (H : Nat) (hH : w.heap.size = H) (ys : List Int) (tag : TypeId) : SrcB P tx (.slice (some ⟨H, 0, none⟩) ys.length ys.length) ys (w.alloc (.cells (ys.map (Value.int .u8)).toArray tag)).drew := by
  subst hH
  refine Src.ofSlice _ hk ⟨w.heap.size, 0, none⟩ ys.length ys.length _ (by simp) (fun j u hu => ?_) (ints_oneCell _ _)
  have hadd : (⟨w.heap.size, 0, none⟩ : Addr).add j = ⟨w.heap.size, j, none⟩ := by unfold Addr.add; split <;> simp_all
  rw [hadd]
  show (w.alloc _).cell? _ = _
  rw [cell_of_row _ _ j _ tag (0, 0) (heap_alloc_new w _)]
  simpa using hu

theorem pct_length (c : Int) : (pct c).length = 3 := rfl

/-- Behind region 16: the array of three holds the three bytes. -/
theorem made_pct {w wr w2 : World} {c : Int} {o o2 : Obj} (ho2 : Own w2 w.heap.size (.slice (some ⟨wr.heap.size, 0, none⟩) (0 + (pct c).length) 3) ([] ++ pct c)) (hg2 : ((wr.alloc o).alloc o2).drew.grownBy w2 (some wr.heap.size)) :
    Own w2 w.heap.size (.slice (some ⟨wr.heap.size, 0, none⟩) 3 3) (pct c) ∧ wr.grownBy w2 none := by
  refine ⟨by simpa [pct_length] using ho2, ?_⟩
  have h1 : wr.grownBy ((wr.alloc o).alloc o2).drew none := by
    have := grownBy_trans (World.grownBy_alloc wr o none) (World.grownBy_alloc (wr.alloc o) o2 none) (fun k hk => by cases hk)
    exact ⟨this.os, this.tape, this.output, this.size, this.block⟩
  exact grownBy_trans h1 hg2 (fun k hk => .inr (by cases hk; exact Nat.le_refl _))

theorem tail_grown {w wr wc w4 : World} {v v4 : Value} {nq : Nat} (hg : w.grownBy wr none) (hg3 : wr.grownBy wc none) (hst : Step (wc.drewN nq) w4 v v4) (hv : ∀ j, v.ownBlock = some j → w.heap.size ≤ j) : w.grownBy w4 none := by
  have h1 := grownBy_trans hg hg3 (fun k hk => by cases hk)
  have h2 : w.grownBy (wc.drewN nq) none := ⟨h1.os, h1.tape, h1.output, h1.size, h1.block⟩
  exact grownBy_trans h2 hst.1 (fun k hk => .inr (hv k hk))

theorem str_ne_len {a b : ByteArray} (h : a.size ≠ b.size) : (a.toList == b.toList) = false := by
  rw [beq_eq_false_iff_ne]
  intro e
  rw [ByteArray.toList_eq, ByteArray.toList_eq] at e
  have := congrArg List.length e
  rw [Array.length_toList, Array.length_toList] at this
  exact h this

theorem size_extract (s : ByteArray) (a b : Nat) (h : b ≤ s.size) : (s.extract a b).size = b - a := by
  rw [ByteArray.size_extract]
  omega

theorem nums_extract (s : ByteArray) (a b : Nat) : nums (s.extract a b) = ((nums s).drop a).take (b - a) := by
  unfold nums
  rw [ByteArray.data_extract, Array.toList_extract, List.map_take, List.map_drop]

theorem nums_extract0 (s : ByteArray) (k : Nat) : nums (s.extract 0 k) = (nums s).take k := by
  rw [nums_extract]; simp

theorem hexDigits_is (d : Int) (h0 : 0 ≤ d) (h1 : d < 16) : ∀ wx, (Instr.index 9 (.string ⟨#[48, 49, 50, 51, 52, 53, 54, 55, 56, 57, 65, 66, 67, 68, 69, 70]⟩) (.int .u8 d)).run Try.prog wx = .ok (.int .u8 (hexDigit d)) wx := by
  intro wx
  have hd : d = 0 ∨ d = 1 ∨ d = 2 ∨ d = 3 ∨ d = 4 ∨ d = 5 ∨ d = 6 ∨ d = 7 ∨ d = 8 ∨ d = 9 ∨ d = 10 ∨ d = 11 ∨ d = 12 ∨ d = 13 ∨ d = 14 ∨ d = 15 := by omega
  rcases hd with rfl | rfl | rfl | rfl | rfl | rfl | rfl | rfl | rfl | rfl | rfl | rfl | rfl | rfl | rfl | rfl
  all_goals
    rw [run_index_string wx 9 _ .u8 _ Try.underlying9]
    rfl

theorem rel_kept {w wr w' : World} {xs : List Int} {b : Value} {k : Nat} {out : List Int} (h : Rel w w.heap.size xs b k out wr) (hg : wr.grownBy w' none) : Rel w w.heap.size xs b k out w' := by
  rcases h with ⟨h1, h2, h3⟩ | h
  · exact .inl ⟨h1, h2, h3.keptNone hg⟩
  · exact .inr (h.keptNone hg)

theorem slice_is (s : ByteArray) (k r : Nat) (h : k + r ≤ s.size) : ∀ wx, (Instr.slice 9 (.string s) (some (.int .i64 (k : Int))) (some (.int .i64 ((k : Int) + (r : Int)))) none).run Try.prog wx = .ok (.string (s.extract k (k + r))) wx := by
  intro wx
  rw [run_slice_string wx 9 s .i64 .i64 k ((k : Int) + (r : Int)) Try.underlying9 (by omega) (by omega) (by omega), Int.toNat_natCast, show ((k : Int) + (r : Int)).toNat = k + r by omega]

theorem take_next (xs : List Int) (k : Nat) (c : Int) (h : xs[k]? = some c) : xs.take k ++ [c] = xs.take (k + 1) := by
  have hl : k < xs.length := (List.getElem?_eq_some_iff.1 h).1
  rw [List.take_succ_eq_append_getElem hl]
  have := List.getElem?_eq_getElem hl
  rw [this] at h
  cases h
  rfl

theorem take_next3 (xs : List Int) (k : Nat) (c a l : Int) (r : List Int) (h : xs.drop k = c :: a :: l :: r) : xs.take k ++ [c, a, l] = xs.take (k + 3) := by
  have e : xs.take (k + 3) = xs.take k ++ (xs.drop k).take 3 := by rw [List.take_add]
  rw [e, h]
  rfl

theorem or_hex (H L : Int) (h0 : 0 ≤ H) (h1 : H < 16) (h2 : 0 ≤ L) (h3 : L < 16) : bits BinOp.or IntKind.u8 (H * 16) L = H * 16 + L := by
  rw [u8_or _ _ (by omega) (by omega) (by omega) (by omega), nat_join 4 _ _ (by omega) (by omega)]
  omega

theorem or_hexw (H L : Int) (h0 : 0 ≤ H) (h1 : H < 16) (h2 : 0 ≤ L) (h3 : L < 16) : bits BinOp.or IntKind.u8 (IntKind.u8.wrap (H * 16)) L = H * 16 + L := by
  have hw : IntKind.u8.wrap (H * 16) = H * 16 := by
    rw [IntKind.wrap_u8]; omega
  rw [hw, or_hex H L h0 h1 h2 h3]

theorem or_hexm (H L : Int) (h0 : 0 ≤ H) (h1 : H < 16) (h2 : 0 ≤ L) (h3 : L < 16) : bits BinOp.or IntKind.u8 (H * 16 % 256) L = H * 16 + L := by
  have hw : H * 16 % 256 = H * 16 := by omega
  rw [hw, or_hex H L h0 h1 h2 h3]

theorem made_copy {w wr wc w2 : World} {O : List Int} {n m : Nat} (hO : O.length = m) (ho2 : Own w2 w.heap.size (.slice (some ⟨wr.heap.size, 0, none⟩) (0 + n) 3) ([] ++ O)) (hn : n = m) (hg3 : wr.grownBy wc none) (hg2 : wc.grownBy w2 (some wr.heap.size)) :
    Own w2 w.heap.size (.slice (some ⟨wr.heap.size, 0, none⟩) m 3) O ∧ wr.grownBy w2 none := by
  subst hn
  refine ⟨by simpa using ho2, grownBy_trans hg3 hg2 (fun k hk => .inr (by cases hk; exact Nat.le_refl _))⟩

theorem grown_drew {a b : World} {r : Option Nat} (h : a.drew.grownBy b r) : a.grownBy b r := ⟨h.os, h.tape, h.output, h.size, h.block⟩
theorem grown_alloc {a b : World} {r : Option Nat} {o : Obj} (h : (a.alloc o).grownBy b r) : a.grownBy b r :=
  ⟨h.os, h.tape, h.output, by have := h.size; simp at this; omega, fun k hk hn => (h.block k (by simp; omega) hn).trans (_root_.Go.RowKit.Below.heap_alloc a o k hk)⟩

theorem str_eq_self (s : ByteArray) (a b : Nat) (O : List Int) (h : nums (s.extract a b) = O) : ((strOfNums O).toList == (s.extract a b).toList) = true := by
  rw [← h, str_nums]; simp

theorem str_eq_of {s : ByteArray} {a b : Nat} {O : List Int} (hO : IsB O) (h : ((strOfNums O).toList == (s.extract a b).toList) = true) : O = nums (s.extract a b) := by
  have e : (strOfNums O).toList = (s.extract a b).toList := by simpa using h
  rw [ByteArray.toList_eq, ByteArray.toList_eq] at e
  have e2 : nums (strOfNums O) = nums (s.extract a b) := by unfold nums; rw [e]
  rw [nums_str O hO] at e2
  exact e2

set_option maxRecDepth 100000 in
set_option maxHeartbeats 4000000 in
theorem escape_any (w : World) (kb : Nat) (s : ByteArray) (K : Nat → Bool) (p : Int) (hk : Kept w kb K) (hkb : kb < w.heap.size) (hs : s.size ≤ 2000000) (hp0 : 0 ≤ p) (hp2 : p ≤ 2) :
    Calls Try.prog 13 #[.string s, .pointer (some ⟨kb, 0, none⟩), .int .i64 p] w fun e w' => e = .returned (.string (strOfNums (esc K p (nums s)))) ∧ w.grownBy w' none := by
  obtain ⟨i0, hi, hz0, hz1, hz2⟩ := info_parts Try.info5
  go_enter Try.func13, Try.ntmps13
  go_wp2_with fail
  go_loopw [8, 9] (fun b i wr => ∃ (k : Nat) (out : List Int), k ≤ s.size ∧ i = .int .i64 (k : Int) ∧ Rel w w.heap.size (nums s) b k out wr ∧ out ++ esc K p ((nums s).drop k) = esc K p (nums s) ∧ out.length ≤ 3 * k ∧ w.grownBy wr none) (fun _ i _ => s.size - (intOf i).toNat)
  case atStart => exact ⟨0, [], by omega, rfl, .inl ⟨rfl, by simp, Own.empty (Nat.le_refl _) (heap_alloc_new w _) (by unfold maxLen; omega) rfl⟩, rfl, by simp, World.grownBy_alloc _ _ _⟩
  case round =>
    obtain ⟨k, out, hk1, rfl, hrel, heq, hol, hg⟩ := hrel
    have hsz := hg.size
    have hnl := nums_length s
    by_cases hlt : k < s.size
    · obtain ⟨c, hd, hc0⟩ := drop_one (nums s) k (by omega)
      have hix0 := index_is s k k c rfl hlt hc0
      have hb0 := isB_get (nums_isB s) hc0
      rw [hd] at heq
      cases hkc : K c.toNat with
      | true =>
        have hcell : wr.cell? ⟨kb, c.toNat, none⟩ = some (.bool true) := by rw [← hkc]; exact hk.below (grown_below hg) hkb c.toNat (by omega)
        rw [esc_kept K p c _ hkc] at heq
        have HQ : Hid (out ++ [c] ++ esc K p ((nums s).drop (k + 1)) = esc K p (nums s)) := by rw [List.append_assoc]; exact heq
        clear heq hd hkc hnl
        have q1 : ∀ (w : World) (a : Option Addr) (n c n' c' : Nat), (binOp .eql 36 (.slice a n c) (.slice none n' c')).run Try.prog w = .ok (.bool a.isNone) w := fun w a n c n' c' => Lib.run_eql_slice_nil w _ _ a n c n' c' Try.underlying36
        have q2 : ∀ (w : World) (a : Option Addr) (n c n' c' : Nat), (binOp .neq 36 (.slice a n c) (.slice none n' c')).run Try.prog w = .ok (.bool !a.isNone) w := fun w a n c n' c' => run_neq_slice_nil_any w _ _ a n c n' c' Try.underlying36
        rcases hrel with ⟨rfl, hout, hbuf⟩ | hbown
        · have HO : Hid (out ++ [c] = (nums s).take (k + 1)) := by rw [hout]; exact take_next _ k c hc0
          clear hout hc0
          go_wp2_with fail
          go_roundw
          case rel => exact ⟨k + 1, out ++ [c], by omega, by go_num, .inl ⟨rfl, HO.out, hbuf⟩, HQ.out, by simp; omega, hg⟩
          case measure => simp [intOf]; omega
        · clear hc0
          obtain ⟨gb, capb, hub, _⟩ := hbown.shape
          subst hub
          go_wp2_with (at_builtin; refine wpList_append_bytes _ rfl (.tmp 30) (.tmp 32) 36 36 rfl w.heap.size 5 i0 Try.underlying36 hi hz0 hz1 hz2 (.slice (some ⟨gb, 0, none⟩) out.length capb) _ out [c] rfl rfl (hbown.alloc _) (SrcB.lit Try.underlying36 _ [c] 5) (by simp; omega) (by simp; omega) ?_; intro v4 w4 ho4 hst4)
          go_roundw
          case rel =>
            have hst' := Step.before (World.grownBy_alloc _ _ _) hst4
            exact ⟨k + 1, out ++ [c], by omega, by go_num, .inr ho4, HQ.out, by simp; omega, grownBy_trans hg hst'.1 (fun j hj => .inr (hbown.lt j hj).1)⟩
          case measure => simp [intOf]; omega
      | false =>
        have hcell : wr.cell? ⟨kb, c.toNat, none⟩ = some (.bool false) := by rw [← hkc]; exact hk.below (grown_below hg) hkb c.toNat (by omega)
        rcases esc_view K p c ((nums s).drop (k + 1)) hkc with ⟨ch, cl, r', hceq, hp, hr, hh, hl⟩ | ⟨hesc, hwhy⟩
        · rw [hr] at hd
          have hlen2 : k + 2 < s.size := by
            have := congrArg List.length hr
            rw [List.length_drop] at this
            simp at this
            omega
          have hc1 : (nums s)[k + 1]? = some ch := by
            have := congrArg (fun l : List Int => l[0]?) hr
            simpa using this
          have hc2 : (nums s)[k + 2]? = some cl := by
            have := congrArg (fun l : List Int => l[1]?) hr
            simpa [Nat.add_assoc] using this
          have hi1 := index_is s (k + 1) (k + 1) ch rfl (by omega) hc1
          have hi2 := index_is s (k + 2) (k + 2) cl rfl (by omega) hc2
          have hb1 := isB_get (nums_isB s) hc1
          have hb2 := isB_get (nums_isB s) hc2
          have hpn : (p != 0) = true := by simp [hp]
          rw [hr] at heq
          have hce : (c == 37) = true := by simp [hceq]
          have HC : Hid (c = 37) := hceq
          clear hceq
          have HX : Hid (isHexB ch = true) := isHexB_yes hh
          have HX2 : Hid (isHexB cl = true) := isHexB_yes hl
          have hpp : p = 1 ∨ p = 2 := by omega
          rcases hpp with hp1 | hp1
          · subst hp1
            have HD : Hid ((nums s).drop k = c :: ch :: cl :: r') := hd
            have HN : Hid (nums (s.extract k (k + 3)) = [c, ch, cl]) := by
              show nums (s.extract k (k + 3)) = _
              rw [nums_extract, hd, show k + 3 - k = 3 by omega]; rfl
            have HR : Hid (r' = (nums s).drop (k + 3)) := by
              show r' = _
              rw [← List.drop_drop, hd]; rfl
            have HQ : Hid (out ++ ([c, ch, cl] ++ esc K 1 ((nums s).drop (k + 3))) = esc K 1 (nums s)) := by
              show _ = _
              rw [← HR.out, ← heq, esc, if_neg (by rw [hkc]; decide), if_pos ⟨HC.out, by decide, hh, hl⟩, if_pos rfl]
            clear heq hd hr hc0 hc1 hc2 hnl hp hh hl hpn hkc
            have hpn : ((1 : Int) != 0) = true := rfl
            have hOl : [c, ch, cl].length = 3 := rfl
            go_wp2_with fail
            refine (isHex_any _ _ hb1.1 hb1.2).mono ?_
            rintro e w2 ⟨rfl, hw2⟩
            obtain rfl := hw2.symm
            rw [HX.out]
            go_wp2_with fail
            refine (isHex_any _ _ hb2.1 hb2.2).mono ?_
            rintro e w2 ⟨rfl, hw2⟩
            obtain rfl := hw2.symm
            rw [HX2.out]
            have hq1 : (0 : Int) ≤ c / 16 := by omega
            have hq2 : c / 16 < 16 := by omega
            have hq3 : (0 : Int) ≤ c % 16 := by omega
            have hq4 : c % 16 < 16 := by omega
            have hx1 := hexDigits_is (c / 16) hq1 hq2
            have hx2 := hexDigits_is (c % 16) hq3 hq4
            have hx3 : ∀ wx, (Instr.index 9 (.string ⟨#[48, 49, 50, 51, 52, 53, 54, 55, 56, 57, 65, 66, 67, 68, 69, 70]⟩) (.int .u8 (bits BinOp.and IntKind.u8 c 15))).run Try.prog wx = .ok (.int .u8 (hexDigit (c % 16))) wx := by
              rw [u8_and15 _ hb0.1 hb0.2]; exact hx2
            have hw3 : Own (wr.alloc (.cells #[.int .u8 0, .int .u8 0, .int .u8 0] 40)) w.heap.size (.slice (some ⟨wr.heap.size, 0, none⟩) 0 3) [] := Own.empty hsz (heap_alloc_new wr _) (by unfold maxLen; omega) rfl
            go_upto_region 16 with fail
            go_cut [13] (fun o wx => o = .slice (some ⟨wr.heap.size, 0, none⟩) 3 3 ∧ Own wx w.heap.size (.slice (some ⟨wr.heap.size, 0, none⟩) 3 3) (pct c) ∧ wr.grownBy wx none)
            case first =>
              go_region_held3 (fun w' => True) (trivial) ((refine step_append_fits3 _ (by rfl) _ _ 36 36 (by rfl) w.heap.size 5 i0 Try.underlying36 hi hz1 wr.heap.size 0 3 _ [] (pct c) (by rfl) (by rfl) (by exact hw3.alloc _) (by exact srcB_litD Try.underlying36 _ (wr.heap.size + 1) (by simp) (pct c) 5) (by simp [pct]) ?_; intro w2 ho2 hg2))
              all_goals
                go_wp2_with fail
                go_meet
                case rel => exact ⟨rfl, made_pct ho2 hg2⟩
            case rest =>
              obtain ⟨rfl, ho3, hg3⟩ := hcut
              clear hx1 hx2 hx3 hw3 hcell
              have hkI0 : (k : Int) + 3 ≤ (s.size : Int) := by omega
              have hwk : IntKind.i64.wrap ((k : Int) + 3) = (k : Int) + 3 := by rw [IntKind.wrap_i64]; omega
              have hsl : ∀ wx, (Instr.slice 9 (.string s) (some (.int .i64 (k : Int))) (some (.int .i64 ((k : Int) + 3))) none).run Try.prog wx = .ok (.string (s.extract k (k + 3))) wx := slice_is s k 3 (by omega)
              have hk00 : (0 : Int) ≤ (k : Int) := by omega
              have hk03 : (k : Int) ≤ (k : Int) + 3 := by omega
              have hsrc : ∀ wx, SrcB Try.prog 9 (.string (s.extract k (k + 3))) [c, ch, cl] wx := fun wx => by
                have := SrcB.str Try.underlying9 wx (s.extract k (k + 3))
                rw [HN.out] at this
                exact this
              have hcut0 := ho3.cut
              go_upto_region 18 with fail
              go_region_held3 (fun w' => True) (trivial) ((refine step_append_fits3 _ (by rfl) _ _ 36 9 (by rfl) w.heap.size 5 i0 Try.underlying36 hi hz1 wr.heap.size 0 3 _ [] [c, ch, cl] (by rfl) (by rfl) (by exact hcut0) (by exact hsrc _) (by simp) ?_; intro w5 ho5 hg5))
              obtain ⟨ho6, hg6⟩ := made_copy (m := 3) hOl ho5 rfl hg3 (grown_drew hg5)
              clear ho3 hg3 ho5 hg5 hcut0 hsrc
              have ho3 := ho6
              have hg3 := hg6
              clear ho6 hg6
              have q1 : ∀ (w : World) (a : Option Addr) (n c n' c' : Nat), (binOp .eql 36 (.slice a n c) (.slice none n' c')).run Try.prog w = .ok (.bool a.isNone) w := fun w a n c n' c' => Lib.run_eql_slice_nil w _ _ a n c n' c' Try.underlying36
              have q2 : ∀ (w : World) (a : Option Addr) (n c n' c' : Nat), (binOp .neq 36 (.slice a n c) (.slice none n' c')).run Try.prog w = .ok (.bool !a.isNone) w := fun w a n c n' c' => run_neq_slice_nil_any w _ _ a n c n' c' Try.underlying36
              rcases hrel with ⟨rfl, hout, hbuf⟩ | hbown
              · have HO : Hid (nums (s.extract 0 k) = out) := by rw [nums_extract0]; exact hout.symm
                have HO2 : Hid (out = (nums s).take k) := hout
                clear hout
                have hbuf3 := hbuf.keptNone hg3
                have hbl : w.heap.size < wr.heap.size := (hbuf.lt w.heap.size rfl).2
                have hcv : ∀ nq, (convert 36 9 (.slice (some ⟨wr.heap.size, 0, none⟩) 3 3)).run Try.prog (w5.drewN nq) = .ok (.string (strOfNums [c, ch, cl])) (w5.drewN nq) := fun nq => own_convert (ho3.drewN nq)
                have hkI : (k : Int) + 3 ≤ (s.size : Int) := by omega
                have hne : ((strOfNums [c, ch, cl]).toList == (s.extract k (k + 3)).toList) = true := str_eq_self s k (k + 3) _ HN.out
                go_upto_region 21 with fail
                go_quiet (fail)
                go_wp2_with fail
                go_roundw
                case rel => exact ⟨k + 3, out ++ [c, ch, cl], by omega, by go_num, .inl ⟨rfl, by rw [HO2.out]; exact take_next3 _ k c ch cl _ HD.out, hbuf3.drewN _⟩, by rw [List.append_assoc]; exact HQ.out, by rw [List.length_append, hOl]; omega, tail_grown hg hg3 (Step.refl _ _) (fun j hj => (hbuf.lt j hj).1)⟩
                case measure => simp [intOf]; omega
              · have hbown3 := hbown.keptNone hg3
                obtain ⟨gb, capb, hub, _⟩ := hbown3.shape
                subst hub
                go_upto_region 21 with fail
                go_quiet (fail)
                go_wp2_with (at_builtin; refine wpList_append_bytes _ rfl (.tmp 128) (.tmp 129) 36 36 rfl w.heap.size 5 i0 Try.underlying36 hi hz0 hz1 hz2 (.slice (some ⟨gb, 0, none⟩) out.length capb) _ out [c, ch, cl] rfl rfl (by exact hbown3) (by exact SrcB.own Try.underlying36 ho3) (by rw [hOl]; omega) (by have := hg3.size; simp; omega) ?_; intro v4 w4 ho4 hst4)
                go_roundw
                case rel => exact ⟨k + 3, out ++ [c, ch, cl], by omega, by go_num, .inr ho4, by rw [List.append_assoc]; exact HQ.out, by rw [List.length_append, hOl]; omega, tail_grown hg hg3 hst4 (fun j hj => (hbown.lt j hj).1)⟩
                case measure => simp [intOf]; omega
          · subst hp1
            have HD : Hid ((nums s).drop k = c :: ch :: cl :: r') := hd
            have HN : Hid (nums (s.extract k (k + 3)) = [c, ch, cl]) := by
              show nums (s.extract k (k + 3)) = _
              rw [nums_extract, hd, show k + 3 - k = 3 by omega]; rfl
            have HR : Hid (r' = (nums s).drop (k + 3)) := by
              show r' = _
              rw [← List.drop_drop, hd]; rfl
            have HQ : Hid (out ++ (encByte K (hexVal ch * 16 + hexVal cl) ++ esc K 2 ((nums s).drop (k + 3))) = esc K 2 (nums s)) := by
              show _ = _
              rw [← HR.out, ← heq, esc, if_neg (by rw [hkc]; decide), if_pos ⟨HC.out, by decide, hh, hl⟩, if_neg (by decide), if_pos rfl]
            have hv1 := hexVal_lt ch
            have hv2 := hexVal_lt cl
            clear heq hd hr hc0 hc1 hc2 hnl hp hpn hkc
            have hpn : ((2 : Int) != 0) = true := rfl
            go_wp2_with fail
            refine (isHex_any _ _ hb1.1 hb1.2).mono ?_
            rintro e w2 ⟨rfl, hw2⟩
            obtain rfl := hw2.symm
            rw [HX.out]
            go_wp2_with fail
            refine (isHex_any _ _ hb2.1 hb2.2).mono ?_
            rintro e w2 ⟨rfl, hw2⟩
            obtain rfl := hw2.symm
            rw [HX2.out]
            have hkI1 : (k : Int) + 1 < (s.size : Int) := by omega
            have hkI2 : (k : Int) + 2 < (s.size : Int) := by omega
            go_upto_region 14 with fail
            go_cut [10] (fun cv wx => cv = .int .u8 (hexVal ch * 16 + hexVal cl) ∧ wr.grownBy wx none)
            case first =>
              have hor1 := or_hex _ _ hh hv1 hl hv2
              have hor2 := or_hexw _ _ hh hv1 hl hv2
              have hor3 := or_hexm _ _ hh hv1 hl hv2
              go_quiet ((first | (go_at_call_of 19 (Value.int .u8 ch); exact Calls.quiet_of_same (unhex_any _ ch hb1.1 hb1.2 hh)) | (go_at_call_of 19 (Value.int .u8 cl); exact Calls.quiet_of_same (unhex_any _ cl hb2.1 hb2.2 hl))))
              go_wp2_with fail
              go_meet
              case rel => exact ⟨by first | rfl | (rw [hor1]) | (rw [hor2]) | (rw [hor3]), ⟨rfl, rfl, rfl, Nat.le_refl _, fun _ _ _ => rfl⟩⟩
            case rest =>
              obtain ⟨rfl, hgd⟩ := hcut
              obtain ⟨wd, hwd⟩ : ∃ wd, wd = wc := ⟨_, rfl⟩
              subst hwd
              have hgw : w.grownBy wd none := grownBy_trans hg hgd (fun k hk => by cases hk)
              have hrel2 := rel_kept hrel hgd
              have hsz2 := hgw.size
              have hbv : 0 ≤ hexVal ch * 16 + hexVal cl ∧ hexVal ch * 16 + hexVal cl < 256 := by omega
              have hcellv := hk.below (grown_below hgw) hkb (hexVal ch * 16 + hexVal cl).toNat (by omega)
              clear hg hrel hsz hgd hcell
              have hg := hgw
              have hrel := hrel2
              have hsz := hsz2
              clear hgw hrel2 hsz2 hv1 hv2 hh hl HX HX2
              generalize hexVal ch * 16 + hexVal cl = v at hbv hcellv HQ ⊢
              cases hkv : K v.toNat with
              | true =>
                rw [hkv] at hcellv
                rw [encByte_yes hkv] at HQ
                have hOl : [v].length = 1 := rfl
                clear hkv
                have hq1 : (0 : Int) ≤ v / 16 := by omega
                have hq2 : v / 16 < 16 := by omega
                have hq3 : (0 : Int) ≤ v % 16 := by omega
                have hq4 : v % 16 < 16 := by omega
                have hx1 := hexDigits_is (v / 16) hq1 hq2
                have hx2 := hexDigits_is (v % 16) hq3 hq4
                have hx3 : ∀ wx, (Instr.index 9 (.string ⟨#[48, 49, 50, 51, 52, 53, 54, 55, 56, 57, 65, 66, 67, 68, 69, 70]⟩) (.int .u8 (bits BinOp.and IntKind.u8 v 15))).run Try.prog wx = .ok (.int .u8 (hexDigit (v % 16))) wx := by
                  rw [u8_and15 _ hbv.1 hbv.2]; exact hx2
                have hw3 : Own (wd.alloc (.cells #[.int .u8 0, .int .u8 0, .int .u8 0] 40)) w.heap.size (.slice (some ⟨wd.heap.size, 0, none⟩) 0 3) [] := Own.empty hsz (heap_alloc_new wd _) (by unfold maxLen; omega) rfl
                go_upto_region 16 with fail
                go_cut [13] (fun o wx => o = .slice (some ⟨wd.heap.size, 0, none⟩) 3 3 ∧ Own wx w.heap.size (.slice (some ⟨wd.heap.size, 0, none⟩) 3 3) (pct v) ∧ wd.grownBy wx none)
                case first =>
                  go_region_held3 (fun w' => True) (trivial) ((refine step_append_fits3 _ (by rfl) _ _ 36 36 (by rfl) w.heap.size 5 i0 Try.underlying36 hi hz1 wd.heap.size 0 3 _ [] (pct v) (by rfl) (by rfl) (by exact hw3.alloc _) (by exact srcB_litD Try.underlying36 _ (wd.heap.size + 1) (by simp) (pct v) 5) (by simp [pct]) ?_; intro w2 ho2 hg2))
                  all_goals
                    go_wp2_with fail
                    go_meet
                    case rel => exact ⟨rfl, made_pct ho2 hg2⟩
                case rest =>
                  obtain ⟨rfl, ho3, hg3⟩ := hcut
                  have hcell3 : wc.cell? ⟨kb, v.toNat, none⟩ = some (.bool true) := hg3.cell hcellv (by simp)
                  clear hx1 hx2 hx3 hw3 hcellv
                  have hcut0 := ho3.cut
                  go_wp2_with (at_builtin; refine wpList_append_fits3 _ rfl _ _ 36 36 rfl w.heap.size 5 i0 Try.underlying36 hi hz1 wd.heap.size 0 3 _ [] [v] rfl rfl (by exact hcut0.alloc _) (by exact SrcB.lit Try.underlying36 _ [v] 5) (by simp) ?_; intro w5 ho5 hg5)
                  obtain ⟨ho6, hg6⟩ := made_copy (m := 1) hOl ho5 rfl hg3 (grown_alloc hg5)
                  clear ho3 hg3 ho5 hg5 hcut0
                  have ho3 := ho6
                  have hg3 := hg6
                  clear ho6 hg6
                  have q1 : ∀ (w : World) (a : Option Addr) (n c n' c' : Nat), (binOp .eql 36 (.slice a n c) (.slice none n' c')).run Try.prog w = .ok (.bool a.isNone) w := fun w a n c n' c' => Lib.run_eql_slice_nil w _ _ a n c n' c' Try.underlying36
                  have q2 : ∀ (w : World) (a : Option Addr) (n c n' c' : Nat), (binOp .neq 36 (.slice a n c) (.slice none n' c')).run Try.prog w = .ok (.bool !a.isNone) w := fun w a n c n' c' => run_neq_slice_nil_any w _ _ a n c n' c' Try.underlying36
                  rcases hrel with ⟨rfl, hout, hbuf⟩ | hbown
                  · have HO : Hid (nums (s.extract 0 k) = out) := by rw [nums_extract0]; exact hout.symm
                    have HO2 : Hid (out = (nums s).take k) := hout
                    clear hout
                    have hbuf3 := hbuf.keptNone hg3
                    have hbl : w.heap.size < wd.heap.size := (hbuf.lt w.heap.size rfl).2
                    have hcv : ∀ nq, (convert 36 9 (.slice (some ⟨wd.heap.size, 0, none⟩) 1 3)).run Try.prog (w5.drewN nq) = .ok (.string (strOfNums [v])) (w5.drewN nq) := fun nq => own_convert (ho3.drewN nq)
                    have hkI : (k : Int) + 3 ≤ (s.size : Int) := by omega
                    have hne : ((strOfNums [v]).toList == (s.extract k (k + 3)).toList) = false := str_ne_len (by rw [strOfNums_size, size_extract s k (k + 3) (by omega)]; simp)
                    go_upto_region 21 with fail
                    go_quiet (fail)
                    go_upto_region 22 with fail
                    go_region_held3 (fun w' => True) (trivial) ((refine step_append_bytes _ (by rfl) _ _ 36 9 (by rfl) w.heap.size 5 i0 Try.underlying36 hi hz0 hz1 hz2 (.slice (some ⟨w.heap.size, 0, none⟩) 0 64) _ [] (nums (s.extract 0 k)) (by rfl) (by rfl) (by exact hbuf3) (by exact SrcB.str Try.underlying9 _ _) (by rw [nums_length, size_extract s 0 k (by omega)]; simp; omega) (by have := hg3.size; simp; omega) ?_; intro v4 w4 ho4 hst4))
                    rw [List.nil_append, HO.out] at ho4
                    obtain ⟨g4, cap4, hv4, _⟩ := ho4.shape
                    subst hv4
                    have ho5 := (ho3.drewN (nq + 1)).kept hst4.1 (by simp [Value.ownBlock]; omega)
                    go_wp2_with (at_builtin; refine wpList_append_bytes _ rfl (.tmp 128) (.tmp 129) 36 36 rfl w.heap.size 5 i0 Try.underlying36 hi hz0 hz1 hz2 (.slice (some ⟨g4, 0, none⟩) out.length cap4) _ out [v] rfl rfl (by exact ho4) (by exact SrcB.own Try.underlying36 ho5) (by rw [hOl]; omega) (by have := hg3.size; have := hst4.1.size; simp at this; omega) ?_; intro v6 w6 ho6 hst6)
                    go_roundw
                    case rel => exact ⟨k + 3, out ++ [v], by omega, by go_num, .inr ho6, by rw [List.append_assoc]; exact HQ.out, by rw [List.length_append, hOl]; omega, tail_grown (nq := nq + 1) hg hg3 (Step.trans (w := w5.drewN (nq + 1)) hst4 hst6) (fun j hj => (hbuf.lt j hj).1)⟩
                    case measure => simp [intOf]; omega
                  · have hbown3 := hbown.keptNone hg3
                    obtain ⟨gb, capb, hub, _⟩ := hbown3.shape
                    subst hub
                    go_upto_region 21 with fail
                    go_quiet (fail)
                    go_wp2_with (at_builtin; refine wpList_append_bytes _ rfl (.tmp 128) (.tmp 129) 36 36 rfl w.heap.size 5 i0 Try.underlying36 hi hz0 hz1 hz2 (.slice (some ⟨gb, 0, none⟩) out.length capb) _ out [v] rfl rfl (by exact hbown3) (by exact SrcB.own Try.underlying36 ho3) (by rw [hOl]; omega) (by have := hg3.size; simp; omega) ?_; intro v4 w4 ho4 hst4)
                    go_roundw
                    case rel => exact ⟨k + 3, out ++ [v], by omega, by go_num, .inr ho4, by rw [List.append_assoc]; exact HQ.out, by rw [List.length_append, hOl]; omega, tail_grown hg hg3 hst4 (fun j hj => (hbown.lt j hj).1)⟩
                    case measure => simp [intOf]; omega
              | false =>
                rw [hkv] at hcellv
                rw [encByte_no hkv] at HQ
                have hOl : (pct v).length = 3 := rfl
                clear hkv
                have hq1 : (0 : Int) ≤ v / 16 := by omega
                have hq2 : v / 16 < 16 := by omega
                have hq3 : (0 : Int) ≤ v % 16 := by omega
                have hq4 : v % 16 < 16 := by omega
                have hx1 := hexDigits_is (v / 16) hq1 hq2
                have hx2 := hexDigits_is (v % 16) hq3 hq4
                have hx3 : ∀ wx, (Instr.index 9 (.string ⟨#[48, 49, 50, 51, 52, 53, 54, 55, 56, 57, 65, 66, 67, 68, 69, 70]⟩) (.int .u8 (bits BinOp.and IntKind.u8 v 15))).run Try.prog wx = .ok (.int .u8 (hexDigit (v % 16))) wx := by
                  rw [u8_and15 _ hbv.1 hbv.2]; exact hx2
                have hw3 : Own (wd.alloc (.cells #[.int .u8 0, .int .u8 0, .int .u8 0] 40)) w.heap.size (.slice (some ⟨wd.heap.size, 0, none⟩) 0 3) [] := Own.empty hsz (heap_alloc_new wd _) (by unfold maxLen; omega) rfl
                go_upto_region 16 with fail
                go_cut [13] (fun o wx => o = .slice (some ⟨wd.heap.size, 0, none⟩) 3 3 ∧ Own wx w.heap.size (.slice (some ⟨wd.heap.size, 0, none⟩) 3 3) (pct v) ∧ wd.grownBy wx none)
                case first =>
                  go_region_held3 (fun w' => True) (trivial) ((refine step_append_fits3 _ (by rfl) _ _ 36 36 (by rfl) w.heap.size 5 i0 Try.underlying36 hi hz1 wd.heap.size 0 3 _ [] (pct v) (by rfl) (by rfl) (by exact hw3.alloc _) (by exact srcB_litD Try.underlying36 _ (wd.heap.size + 1) (by simp) (pct v) 5) (by simp [pct]) ?_; intro w2 ho2 hg2))
                  all_goals
                    go_wp2_with fail
                    go_meet
                    case rel => exact ⟨rfl, made_pct ho2 hg2⟩
                case rest =>
                  obtain ⟨rfl, ho3, hg3⟩ := hcut
                  have hcell3 : wc.cell? ⟨kb, v.toNat, none⟩ = some (.bool false) := hg3.cell hcellv (by simp)
                  clear hx1 hx2 hx3 hw3 hcellv
                  have q1 : ∀ (w : World) (a : Option Addr) (n c n' c' : Nat), (binOp .eql 36 (.slice a n c) (.slice none n' c')).run Try.prog w = .ok (.bool a.isNone) w := fun w a n c n' c' => Lib.run_eql_slice_nil w _ _ a n c n' c' Try.underlying36
                  have q2 : ∀ (w : World) (a : Option Addr) (n c n' c' : Nat), (binOp .neq 36 (.slice a n c) (.slice none n' c')).run Try.prog w = .ok (.bool !a.isNone) w := fun w a n c n' c' => run_neq_slice_nil_any w _ _ a n c n' c' Try.underlying36
                  rcases hrel with ⟨rfl, hout, hbuf⟩ | hbown
                  · have HO : Hid (nums (s.extract 0 k) = out) := by rw [nums_extract0]; exact hout.symm
                    have HO2 : Hid (out = (nums s).take k) := hout
                    clear hout
                    have hbuf3 := hbuf.keptNone hg3
                    have hbl : w.heap.size < wd.heap.size := (hbuf.lt w.heap.size rfl).2
                    have hcv : ∀ nq, (convert 36 9 (.slice (some ⟨wd.heap.size, 0, none⟩) 3 3)).run Try.prog (wc.drewN nq) = .ok (.string (strOfNums (pct v))) (wc.drewN nq) := fun nq => own_convert (ho3.drewN nq)
                    have hkI : (k : Int) + 3 ≤ (s.size : Int) := by omega
                    cases hne : ((strOfNums (pct v)).toList == (s.extract k (k + 3)).toList) with
                    | true =>
                      have HP : Hid (pct v = [c, ch, cl]) := (str_eq_of (pct_isB v hbv.1 hbv.2) hne).trans HN.out
                      go_upto_region 21 with fail
                      go_quiet (fail)
                      go_wp2_with fail
                      go_roundw
                      case rel => exact ⟨k + 3, out ++ (pct v), by omega, by go_num, .inl ⟨rfl, by rw [HP.out, HO2.out]; exact take_next3 _ k c ch cl _ HD.out, hbuf3.drewN _⟩, by rw [List.append_assoc]; exact HQ.out, by rw [List.length_append, hOl]; omega, tail_grown hg hg3 (Step.refl _ _) (fun j hj => (hbuf.lt j hj).1)⟩
                      case measure => simp [intOf]; omega
                    | false =>
                      go_upto_region 21 with fail
                      go_quiet (fail)
                      go_upto_region 22 with fail
                      go_region_held3 (fun w' => True) (trivial) ((refine step_append_bytes _ (by rfl) _ _ 36 9 (by rfl) w.heap.size 5 i0 Try.underlying36 hi hz0 hz1 hz2 (.slice (some ⟨w.heap.size, 0, none⟩) 0 64) _ [] (nums (s.extract 0 k)) (by rfl) (by rfl) (by exact hbuf3) (by exact SrcB.str Try.underlying9 _ _) (by rw [nums_length, size_extract s 0 k (by omega)]; simp; omega) (by have := hg3.size; simp; omega) ?_; intro v4 w4 ho4 hst4))
                      rw [List.nil_append, HO.out] at ho4
                      obtain ⟨g4, cap4, hv4, _⟩ := ho4.shape
                      subst hv4
                      have ho5 := (ho3.drewN (nq + 1)).kept hst4.1 (by simp [Value.ownBlock]; omega)
                      go_wp2_with (at_builtin; refine wpList_append_bytes _ rfl (.tmp 128) (.tmp 129) 36 36 rfl w.heap.size 5 i0 Try.underlying36 hi hz0 hz1 hz2 (.slice (some ⟨g4, 0, none⟩) out.length cap4) _ out (pct v) rfl rfl (by exact ho4) (by exact SrcB.own Try.underlying36 ho5) (by rw [hOl]; omega) (by have := hg3.size; have := hst4.1.size; simp at this; omega) ?_; intro v6 w6 ho6 hst6)
                      go_roundw
                      case rel => exact ⟨k + 3, out ++ (pct v), by omega, by go_num, .inr ho6, by rw [List.append_assoc]; exact HQ.out, by rw [List.length_append, hOl]; omega, tail_grown (nq := nq + 1) hg hg3 (Step.trans (w := wc.drewN (nq + 1)) hst4 hst6) (fun j hj => (hbuf.lt j hj).1)⟩
                      case measure => simp [intOf]; omega
                  · have hbown3 := hbown.keptNone hg3
                    obtain ⟨gb, capb, hub, _⟩ := hbown3.shape
                    subst hub
                    go_upto_region 21 with fail
                    go_quiet (fail)
                    go_wp2_with (at_builtin; refine wpList_append_bytes _ rfl (.tmp 128) (.tmp 129) 36 36 rfl w.heap.size 5 i0 Try.underlying36 hi hz0 hz1 hz2 (.slice (some ⟨gb, 0, none⟩) out.length capb) _ out (pct v) rfl rfl (by exact hbown3) (by exact SrcB.own Try.underlying36 ho3) (by rw [hOl]; omega) (by have := hg3.size; simp; omega) ?_; intro v4 w4 ho4 hst4)
                    go_roundw
                    case rel => exact ⟨k + 3, out ++ (pct v), by omega, by go_num, .inr ho4, by rw [List.append_assoc]; exact HQ.out, by rw [List.length_append, hOl]; omega, tail_grown hg hg3 hst4 (fun j hj => (hbown.lt j hj).1)⟩
                    case measure => simp [intOf]; omega
        · rw [hesc] at heq
          have HQ : Hid (out ++ (pct c ++ esc K p ((nums s).drop (k + 1))) = esc K p (nums s)) := heq
          clear heq hesc
          go_upto_region 11 with fail
          go_cut [60] (fun s60 wx => s60 = .bool false ∧ wr = wx)
          case first =>
            clear hc0 hkc hcell
            rcases hwhy with hn | ⟨rfl, rfl⟩ | ⟨rfl, hp, hlen⟩ | ⟨ch, cl, r', rfl, hp, hr, hx⟩
            · have hne : (c == 37) = false := by simp [hn]
              go_wp2_with fail
              go_meet
              case rel => exact ⟨rfl, rfl⟩
            · have h00 : ((0 : Int) != 0) = false := rfl
              go_wp2_with fail
              go_meet
              case rel => exact ⟨rfl, rfl⟩
            · have hpn : (p != 0) = true := by simp [hp]
              rw [List.length_drop, hnl] at hlen
              have hdd : decide ((k : Int) + 2 < (s.size : Int)) = false := by rw [decide_eq_false_iff_not]; omega
              clear hp
              go_wp2_with fail
              go_meet
              case rel => exact ⟨rfl, rfl⟩
            · rw [hr] at hd
              have hlen2 : k + 2 < s.size := by
                have := congrArg List.length hr
                rw [List.length_drop] at this
                simp at this
                omega
              have hc1 : (nums s)[k + 1]? = some ch := by
                have := congrArg (fun l : List Int => l[0]?) hr
                simpa using this
              have hc2 : (nums s)[k + 2]? = some cl := by
                have := congrArg (fun l : List Int => l[1]?) hr
                simpa [Nat.add_assoc] using this
              have hi1 := index_is s (k + 1) (k + 1) ch rfl (by omega) hc1
              have hi2 := index_is s (k + 2) (k + 2) cl rfl (by omega) hc2
              have hb1 := isB_get (nums_isB s) hc1
              have hb2 := isB_get (nums_isB s) hc2
              have hpn : (p != 0) = true := by simp [hp]
              clear hp hr hd hc1 hc2 hnl
              rcases hx with hx | ⟨hx, hx2⟩
              · have HX : Hid (isHexB ch = false) := isHexB_no hx
                clear hx
                go_wp2_with fail
                refine (isHex_any _ _ hb1.1 hb1.2).mono ?_
                rintro e w2 ⟨rfl, hw2⟩
                subst hw2
                rw [HX.out]
                go_wp2_with fail
                go_meet
                case rel => exact ⟨rfl, rfl⟩
              · have HX : Hid (isHexB ch = true) := isHexB_yes hx
                have HX2 : Hid (isHexB cl = false) := isHexB_no hx2
                clear hx hx2
                go_wp2_with fail
                refine (isHex_any _ _ hb1.1 hb1.2).mono ?_
                rintro e w2 ⟨rfl, hw2⟩
                subst hw2
                rw [HX.out]
                go_wp2_with fail
                refine (isHex_any _ _ hb2.1 hb2.2).mono ?_
                rintro e w2 ⟨rfl, hw2⟩
                subst hw2
                rw [HX2.out]
                go_wp2_with fail
                go_meet
                case rel => exact ⟨rfl, rfl⟩
          case rest =>
            obtain ⟨rfl, rfl⟩ := hcut
            clear hwhy hd hc0 hkc hnl
            have hOl : (pct c).length = 3 := rfl
            have hq1 : (0 : Int) ≤ c / 16 := by omega
            have hq2 : c / 16 < 16 := by omega
            have hq3 : (0 : Int) ≤ c % 16 := by omega
            have hq4 : c % 16 < 16 := by omega
            have hx1 := hexDigits_is (c / 16) hq1 hq2
            have hx2 := hexDigits_is (c % 16) hq3 hq4
            have hx3 : ∀ wx, (Instr.index 9 (.string ⟨#[48, 49, 50, 51, 52, 53, 54, 55, 56, 57, 65, 66, 67, 68, 69, 70]⟩) (.int .u8 (bits BinOp.and IntKind.u8 c 15))).run Try.prog wx = .ok (.int .u8 (hexDigit (c % 16))) wx := by
              rw [u8_and15 _ hb0.1 hb0.2]; exact hx2
            have hw3 : Own (wr.alloc (.cells #[.int .u8 0, .int .u8 0, .int .u8 0] 40)) w.heap.size (.slice (some ⟨wr.heap.size, 0, none⟩) 0 3) [] := Own.empty hsz (heap_alloc_new wr _) (by unfold maxLen; omega) rfl
            go_upto_region 16 with fail
            go_cut [13] (fun o wx => o = .slice (some ⟨wr.heap.size, 0, none⟩) 3 3 ∧ Own wx w.heap.size (.slice (some ⟨wr.heap.size, 0, none⟩) 3 3) (pct c) ∧ wr.grownBy wx none)
            case first =>
              go_region_held3 (fun w' => True) (trivial) ((refine step_append_fits3 _ (by rfl) _ _ 36 36 (by rfl) w.heap.size 5 i0 Try.underlying36 hi hz1 wr.heap.size 0 3 _ [] (pct c) (by rfl) (by rfl) (by exact hw3.alloc _) (by exact srcB_litD Try.underlying36 _ (wr.heap.size + 1) (by simp) (pct c) 5) (by simp [pct]) ?_; intro w2 ho2 hg2))
              all_goals
                go_wp2_with fail
                go_meet
                case rel => exact ⟨rfl, made_pct ho2 hg2⟩
            case rest =>
              obtain ⟨rfl, ho3, hg3⟩ := hcut
              have hcell3 : wc.cell? ⟨kb, c.toNat, none⟩ = some (.bool false) := hg3.cell hcell (by simp)
              clear hx1 hx2 hx3 hw3 hcell
              have q1 : ∀ (w : World) (a : Option Addr) (n c n' c' : Nat), (binOp .eql 36 (.slice a n c) (.slice none n' c')).run Try.prog w = .ok (.bool a.isNone) w := fun w a n c n' c' => Lib.run_eql_slice_nil w _ _ a n c n' c' Try.underlying36
              have q2 : ∀ (w : World) (a : Option Addr) (n c n' c' : Nat), (binOp .neq 36 (.slice a n c) (.slice none n' c')).run Try.prog w = .ok (.bool !a.isNone) w := fun w a n c n' c' => run_neq_slice_nil_any w _ _ a n c n' c' Try.underlying36
              rcases hrel with ⟨rfl, hout, hbuf⟩ | hbown
              · have HO : Hid (nums (s.extract 0 k) = out) := by rw [nums_extract0]; exact hout.symm
                have HO2 : Hid (out = (nums s).take k) := hout
                clear hout
                have hbuf3 := hbuf.keptNone hg3
                have hbl : w.heap.size < wr.heap.size := (hbuf.lt w.heap.size rfl).2
                have hcv : ∀ nq, (convert 36 9 (.slice (some ⟨wr.heap.size, 0, none⟩) 3 3)).run Try.prog (wc.drewN nq) = .ok (.string (strOfNums (pct c))) (wc.drewN nq) := fun nq => own_convert (ho3.drewN nq)
                have hkI : (k : Int) + 1 ≤ (s.size : Int) := by omega
                have hne : ((strOfNums (pct c)).toList == (s.extract k (k + 1)).toList) = false := str_ne_len (by rw [strOfNums_size, pct_length, size_extract s k (k + 1) (by omega)]; omega)
                go_upto_region 21 with fail
                go_quiet (fail)
                go_upto_region 22 with fail
                go_region_held3 (fun w' => True) (trivial) ((refine step_append_bytes _ (by rfl) _ _ 36 9 (by rfl) w.heap.size 5 i0 Try.underlying36 hi hz0 hz1 hz2 (.slice (some ⟨w.heap.size, 0, none⟩) 0 64) _ [] (nums (s.extract 0 k)) (by rfl) (by rfl) (by exact hbuf3) (by exact SrcB.str Try.underlying9 _ _) (by rw [nums_length, size_extract s 0 k (by omega)]; simp; omega) (by have := hg3.size; simp; omega) ?_; intro v4 w4 ho4 hst4))
                rw [List.nil_append, HO.out] at ho4
                obtain ⟨g4, cap4, hv4, _⟩ := ho4.shape
                subst hv4
                have ho5 := (ho3.drewN (nq + 1)).kept hst4.1 (by simp [Value.ownBlock]; omega)
                go_wp2_with (at_builtin; refine wpList_append_bytes _ rfl (.tmp 128) (.tmp 129) 36 36 rfl w.heap.size 5 i0 Try.underlying36 hi hz0 hz1 hz2 (.slice (some ⟨g4, 0, none⟩) out.length cap4) _ out (pct c) rfl rfl (by exact ho4) (by exact SrcB.own Try.underlying36 ho5) (by rw [hOl]; omega) (by have := hg3.size; have := hst4.1.size; simp at this; omega) ?_; intro v6 w6 ho6 hst6)
                go_roundw
                case rel => exact ⟨k + 1, out ++ (pct c), by omega, by go_num, .inr ho6, by rw [List.append_assoc]; exact HQ.out, by rw [List.length_append, hOl]; omega, tail_grown (nq := nq + 1) hg hg3 (Step.trans (w := wc.drewN (nq + 1)) hst4 hst6) (fun j hj => (hbuf.lt j hj).1)⟩
                case measure => simp [intOf]; omega
              · have hbown3 := hbown.keptNone hg3
                obtain ⟨gb, capb, hub, _⟩ := hbown3.shape
                subst hub
                go_upto_region 21 with fail
                go_quiet (fail)
                go_wp2_with (at_builtin; refine wpList_append_bytes _ rfl (.tmp 128) (.tmp 129) 36 36 rfl w.heap.size 5 i0 Try.underlying36 hi hz0 hz1 hz2 (.slice (some ⟨gb, 0, none⟩) out.length capb) _ out (pct c) rfl rfl (by exact hbown3) (by exact SrcB.own Try.underlying36 ho3) (by rw [hOl]; omega) (by have := hg3.size; simp; omega) ?_; intro v4 w4 ho4 hst4)
                go_roundw
                case rel => exact ⟨k + 1, out ++ (pct c), by omega, by go_num, .inr ho4, by rw [List.append_assoc]; exact HQ.out, by rw [List.length_append, hOl]; omega, tail_grown hg hg3 hst4 (fun j hj => (hbown.lt j hj).1)⟩
                case measure => simp [intOf]; omega
    · have hk' : k = s.size := by omega
      rw [List.drop_of_length_le (by omega), show esc K p [] = [] from rfl, List.append_nil] at heq
      have HQ : Hid (out = esc K p (nums s)) := heq
      clear heq
      have q1 : ∀ (w : World) (a : Option Addr) (n c n' c' : Nat), (binOp .eql 36 (.slice a n c) (.slice none n' c')).run Try.prog w = .ok (.bool a.isNone) w := fun w a n c n' c' => Lib.run_eql_slice_nil w _ _ a n c n' c' Try.underlying36
      have q2 : ∀ (w : World) (a : Option Addr) (n c n' c' : Nat), (binOp .neq 36 (.slice a n c) (.slice none n' c')).run Try.prog w = .ok (.bool !a.isNone) w := fun w a n c n' c' => run_neq_slice_nil_any w _ _ a n c n' c' Try.underlying36
      rcases hrel with ⟨rfl, hout, hbuf⟩ | hbown
      · have HS : Hid (s = strOfNums (esc K p (nums s))) := by
          show s = _
          rw [← HQ.out, hout, List.take_of_length_le (by omega), str_nums]
        clear hout
        go_wp2_with fail
        go_ret
        exact ⟨congrArg (fun x => Ending.returned (.string x)) HS.out, hg⟩
      · have hcv := own_convert hbown
        obtain ⟨gb, capb, hub, _⟩ := hbown.shape
        subst hub
        go_wp2_with fail
        go_ret
        exact ⟨by rw [← HQ.out]; rfl, hg⟩

end Go.Proofs.Qxb6601943a

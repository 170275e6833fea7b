import Derived.Test.Qxb6601896aProg
import Derived.Test.Qxb6601896aBytes
import Derived.Test.Qxb6601896aAL
namespace Go.Proofs.Qxb6601896a
open Go.RowKit
set_option linter.unusedVariables false

theorem Has.nil (w : World) : Has w (.slice none 0 0) [] := ⟨none, 0, rfl, fun _ => ⟨rfl, rfl⟩, fun ad had => by cases had⟩

theorem has_of_cells {w : World} {x : Addr} {len cap : Nat} {zs : List Int} (hl : len ≤ cap) (hz : zs.length = cap) (hc : ∀ i, i < zs.length → w.cell? (x.add i) = some (.int .u8 (zs.getD i 0))) :
    Has w (.slice (some x) len cap) (zs.take len) ∧ (zs.take len).length = len := by
  have hlen : (zs.take len).length = len := by simp; omega
  refine ⟨⟨some x, cap, by rw [hlen], fun h => (by cases h), fun ad had j u hu => ?_⟩, hlen⟩
  cases had
  have hj : j < len := by
    have := (List.getElem?_eq_some_iff.1 hu).1
    rw [List.length_map, hlen] at this
    exact this
  have hjz : j < zs.length := by omega
  have hu' : u = .int .u8 (zs.getD j 0) := by
    simp [hj, hjz] at hu
    simp [← hu, hjz]
  rw [hu']
  exact hc j hjz

theorem fill_set (ys : List Int) (k : Nat) (hk : k < ys.length) : (ys.take k ++ List.replicate (ys.length - k) 0).set k (ys.getD k 0) = ys.take (k + 1) ++ List.replicate (ys.length - (k + 1)) 0 := by
  have h1 : (ys.take k).length = k := by simp; omega
  rw [List.set_append, if_neg (by omega), h1, Nat.sub_self, show ys.length - k = (ys.length - (k + 1)) + 1 by omega, List.replicate_succ, List.set_cons_zero, List.take_succ_eq_append_getElem hk, List.append_assoc]
  simp only [List.getD_eq_getElem?_getD, List.getElem?_eq_getElem hk, Option.getD_some]
  rfl

set_option maxHeartbeats 1000000 in
theorem clone_nil (w : World) :
    Calls Try.prog 10 #[.slice none 0 0] w fun e w' => ∃ v', e = .returned v' ∧ Own 5 w' w.heap.size v' [] ∧ w.grownBy w' none := by
  have q22 : ∀ (w : World) (a : Option Addr) (n c n' c' : Nat), (binOp .eql 22 (.slice a n c) (.slice none n' c')).run Try.prog w = .ok (.bool a.isNone) w := fun w a n c n' c' => Lib.run_eql_slice_nil w _ _ a n c n' c' Try.underlying22
  go_enter Try.func10, Try.ntmps10
  go_wp2_with fail
  go_ret
  exact ⟨_, rfl, Own.nil _ _ _, World.grownBy.refl _ _⟩

set_option maxHeartbeats 1000000 in
theorem clone_row (w : World) (b off c : Nat) (ys : List Int) (hc : ∀ j, j < ys.length → w.cell? ⟨b, off + j, none⟩ = some (.int .u8 (ys.getD j 0))) (hl : ys.length ≤ 1000000) :
    Calls Try.prog 10 #[.slice (some ⟨b, off, none⟩) ys.length c] w fun e w' => ∃ v', e = .returned v' ∧ Own 5 w' w.heap.size v' ys ∧ w.grownBy w' none := by
  obtain ⟨i0, hi, hz0, hz1, hz2⟩ := info_parts Try.info5
  have q22 : ∀ (w : World) (a : Option Addr) (n c n' c' : Nat), (binOp .eql 22 (.slice a n c) (.slice none n' c')).run Try.prog w = .ok (.bool a.isNone) w := fun w a n c n' c' => Lib.run_eql_slice_nil w _ _ a n c n' c' Try.underlying22
  go_enter Try.func10, Try.ntmps10
  go_wp2_with (at_make; refine wpList_make_full _ rfl _ _ 22 rfl w.heap.size 5 i0 (.int .u8 0) 1 Try.underlying22 hi hz0 hz1 _ _ _ _ ys.length rfl rfl rfl rfl (by rw [hz2]; omega) (by unfold maxLen; omega) (Nat.le_refl _) ?_; intro w1 ho1 hg1)
  have ho1' : Own 5 w1 w.heap.size (.slice (some ⟨w.heap.size, 0, none⟩) ys.length ys.length) (ys.take 0 ++ List.replicate (ys.length - 0) 0) := by
    have h := ho1
    rw [Nat.mul_one, show (Value.int .u8 0).cells = #[.int .u8 0] from rfl, toList_madeCells_one] at h
    simpa [Own] using h
  clear ho1
  go_loopw [4] (fun i wr => ∃ k : Nat, k ≤ ys.length ∧ i = .int .i64 (k : Int) ∧ Own 5 wr w.heap.size (.slice (some ⟨w.heap.size, 0, none⟩) ys.length ys.length) (ys.take k ++ List.replicate (ys.length - k) 0) ∧ w.grownBy wr none) (fun i _ => ys.length - (intOf i).toNat)
  case atStart => exact ⟨0, by omega, rfl, ho1', hg1⟩
  case round =>
    obtain ⟨k, hk, rfl, ho, hg⟩ := hrel
    by_cases hlt : k < ys.length
    · have hcx : wr.cell? ⟨b, off + k, none⟩ = some (.int .u8 (ys.getD k 0)) := hg.cell (hc k hlt) (by simp)
      obtain ⟨hc0, hf0, hs0⟩ := ho.store k (by simp; omega)
      have hs1 := hs0 (ys.getD k 0)
      rw [fill_set ys k hlt] at hs1
      have hg' := grownBy_trans hg hs1.2 (fun j hj => .inr (by cases hj; exact Nat.le_refl _))
      have HO : Hid (Own 5 (wr.setCell ⟨w.heap.size, k, none⟩ (.int .u8 (ys.getD k 0))) w.heap.size (.slice (some ⟨w.heap.size, 0, none⟩) ys.length ys.length) (ys.take (k + 1) ++ List.replicate (ys.length - (k + 1)) 0) ∧ w.grownBy (wr.setCell ⟨w.heap.size, k, none⟩ (.int .u8 (ys.getD k 0))) none) := ⟨hs1.1, hg'⟩
      clear hs0 hs1 hg' ho ho1'
      go_wp2_with fail
      go_roundw
      case rel =>
        have HO' := HO.out
        simp only [List.getD_eq_getElem?_getD, List.getElem?_eq_getElem hlt, Option.getD_some] at HO'
        exact ⟨k + 1, by omega, by go_num, HO'.1, HO'.2⟩
      case measure => simp [intOf]; omega
    · have hk' : k = ys.length := by omega
      subst hk'
      go_wp2_with fail
      go_ret
      exact ⟨_, rfl, by simpa using ho, hg⟩

set_option maxHeartbeats 1000000 in
theorem clone_empty (w : World) (ad : Addr) (c : Nat) :
    Calls Try.prog 10 #[.slice (some ad) 0 c] w fun e w' => ∃ v', e = .returned v' ∧ Own 5 w' w.heap.size v' [] ∧ w.grownBy w' none := by
  obtain ⟨i0, hi, hz0, hz1, hz2⟩ := info_parts Try.info5
  have q22 : ∀ (w : World) (a : Option Addr) (n c n' c' : Nat), (binOp .eql 22 (.slice a n c) (.slice none n' c')).run Try.prog w = .ok (.bool a.isNone) w := fun w a n c n' c' => Lib.run_eql_slice_nil w _ _ a n c n' c' Try.underlying22
  go_enter Try.func10, Try.ntmps10
  go_wp2_with (at_make; refine wpList_make_full _ rfl _ _ 22 rfl w.heap.size 5 i0 (.int .u8 0) 1 Try.underlying22 hi hz0 hz1 _ _ _ _ 0 rfl rfl rfl rfl (by rw [hz2]; omega) (by unfold maxLen; omega) (Nat.le_refl _) ?_; intro w1 ho1 hg1)
  have ho1' : Own 5 w1 w.heap.size (.slice (some ⟨w.heap.size, 0, none⟩) 0 0) [] := by
    have h := ho1
    rw [Nat.mul_one, show (Value.int .u8 0).cells = #[.int .u8 0] from rfl, toList_madeCells_one] at h
    simpa [Own] using h
  clear ho1
  refine wp_loop_rounds 1 ?_
  rw [rounds_succ]
  go_wp2_with fail
  go_ret
  exact ⟨_, rfl, ho1', hg1⟩

theorem clone_any (w : World) (v : Value) (ys : List Int) (h : Has w v ys) (hl : ys.length ≤ 1000000) :
    Calls Try.prog 10 #[v] w fun e w' => ∃ v', e = .returned v' ∧ Own 5 w' w.heap.size v' ys ∧ w.grownBy w' none := by
  by_cases hp : 0 < ys.length
  · obtain ⟨b, off, c, rfl, hc⟩ := h.rowAt hp
    exact clone_row w b off c ys hc hl
  · have h0 : ys = [] := List.eq_nil_of_length_eq_zero (by omega)
    subst h0
    obtain ⟨ao, c, rfl, hn, _⟩ := h
    cases ao with
    | none => rw [(hn rfl).2]; exact clone_nil w
    | some ad => exact clone_empty w ad c

end Go.Proofs.Qxb6601896a

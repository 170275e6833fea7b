import Derived.Test.Qxb6602894aTotal
namespace Go.Proofs.Qxb6602894a
open Go.RowKit
set_option linter.unusedVariables false

theorem Try.info2 : (Try.prog.info? 2).map (fun i => (i.zero, i.size, i.bytes)) = some (some (.int .i64 0), 1, 8) := by kernel_rfl

theorem grownBy_trans {w w1 w2 : World} {r r2 : Option Nat} (h : w.grownBy w1 r) (h2 : w1.grownBy w2 r2) (hr : ∀ k, r2 = some k → r = some k ∨ w.heap.size ≤ k) : w.grownBy w2 r :=
  ⟨h2.os.trans h.os, h2.tape.trans h.tape, h2.output.trans h.output, Nat.le_trans h.size h2.size, fun k hk hne =>
    (h2.block k (Nat.lt_of_lt_of_le hk h.size) (fun e => by
      rcases hr k e.symm with h' | h'
      · exact hne h'.symm
      · omega)).trans (h.block k hk hne)⟩

theorem grown_below {w w' : World} (h : w.grownBy w' none) : Below w.heap.size w w' := (Below.refl _ w).grown h (Nat.le_refl _) (fun k hk => by cases hk)

/-- The slice of int64s at the head of the call's own block g holds xs. -/
def Row (w : World) (base g : Nat) (xs : List Int) : Prop := w.ownsRow base 2 1 (.slice (some ⟨g, 0, none⟩) xs.length xs.length) xs.length (xs.map (Value.int .i64))

theorem Row.cell {w : World} {base g : Nat} {xs : List Int} (h : Row w base g xs) (j : Nat) (hj : j < xs.length) : w.cell? ⟨g, j, none⟩ = some (.int .i64 (xs.getD j 0)) := by
  rw [World.ownsRow.cellAt h j (by omega)]; simp [hj]

theorem Row.lt {w : World} {base g : Nat} {xs : List Int} (h : Row w base g xs) : base ≤ g ∧ g < w.heap.size := World.ownsRow.lt h g rfl

theorem Row.kept {w w' : World} {base g : Nat} {xs : List Int} {row : Option Nat} (h : Row w base g xs) (hg : w.grownBy w' row) (hne : some g ≠ row) : Row w' base g xs :=
  World.ownsRow.kept h hg (.inr hne)

theorem Row.store {w : World} {base g : Nat} {xs : List Int} (h : Row w base g xs) (j : Nat) :
    w.frozen? ⟨g, j, none⟩ = false ∧ ∀ x, Row (w.setCell ⟨g, j, none⟩ (.int .i64 x)) base g (xs.set j x) ∧ w.grownBy (w.setCell ⟨g, j, none⟩ (.int .i64 x)) (some g) := by
  refine ⟨World.ownsRow.frozenAt h j, fun x => ?_⟩
  have hs := World.ownsRow.stored h j (.int .i64 x)
  refine ⟨?_, hs.2⟩
  have h1 := hs.1
  unfold Row
  rw [List.length_set, List.map_set]
  exact h1

theorem fill_set (ys : List Int) (k : Nat) (hk : k < ys.length) : (ys.take k ++ List.replicate (ys.length - k) 0).set k (ys.getD k 0) = ys.take (k + 1) ++ List.replicate (ys.length - (k + 1)) 0 := by
  have h1 : (ys.take k).length = k := by simp; omega
  rw [List.set_append, if_neg (by omega), h1, Nat.sub_self, show ys.length - k = (ys.length - (k + 1)) + 1 by omega, List.replicate_succ, List.set_cons_zero, List.take_succ_eq_append_getElem hk, List.append_assoc]
  simp only [List.getD_eq_getElem?_getD, List.getElem?_eq_getElem hk, Option.getD_some]
  rfl

theorem row_made {w1 : World} {base g n : Nat} (h : w1.ownsRow base 2 1 (.slice (some ⟨g, 0, none⟩) n n) n (madeCells (Value.int .i64 0).cells (n * 1)).toList) : Row w1 base g (List.replicate n 0) := by
  rw [Nat.mul_one, show (Value.int .i64 0).cells = #[.int .i64 0] from rfl, toList_madeCells_one] at h
  unfold Row
  rw [List.length_replicate, List.map_replicate]
  exact h

theorem fill_length (ys : List Int) (k : Nat) (hk : k ≤ ys.length) : (ys.take k ++ List.replicate (ys.length - k) 0).length = ys.length := by
  simp; omega

set_option maxHeartbeats 1000000 in
theorem clone_row (w : World) (b off c : Nat) (ys : List Int) (hc : ∀ j, j < ys.length → w.cell? ⟨b, off + j, none⟩ = some (.int .i64 (ys.getD j 0))) (hl : ys.length ≤ 1000000) :
    Calls Try.prog 14 #[.slice (some ⟨b, off, none⟩) ys.length c] w fun e w' => e = .returned (.slice (some ⟨w.heap.size, 0, none⟩) ys.length ys.length) ∧ Row w' w.heap.size w.heap.size ys ∧ w.grownBy w' none := by
  obtain ⟨i0, hi, hz0, hz1, hz2⟩ := info_parts Try.info2
  have q31 : ∀ (w : World) (a : Option Addr) (n c n' c' : Nat), (binOp .eql 31 (.slice a n c) (.slice none n' c')).run Try.prog w = .ok (.bool a.isNone) w := fun w a n c n' c' => Lib.run_eql_slice_nil w _ _ a n c n' c' Try.underlying31
  go_enter Try.func14, Try.ntmps14
  go_wp2_with (at_make; refine wpList_make_full _ rfl _ _ 31 rfl w.heap.size 2 i0 (.int .i64 0) 1 Try.underlying31 hi hz0 hz1 _ _ _ _ ys.length rfl rfl rfl rfl (by rw [hz2]; omega) (by unfold maxLen; omega) (Nat.le_refl _) ?_; intro w1 ho1 hg1)
  have ho1' : Row w1 w.heap.size w.heap.size (ys.take 0 ++ List.replicate (ys.length - 0) 0) := row_made ho1
  clear ho1
  go_loopw [4] (fun i wr => ∃ k : Nat, k ≤ ys.length ∧ i = .int .i64 (k : Int) ∧ Row wr w.heap.size w.heap.size (ys.take k ++ List.replicate (ys.length - k) 0) ∧ w.grownBy wr none) (fun i _ => ys.length - (intOf i).toNat)
  case atStart => exact ⟨0, by omega, rfl, ho1', hg1⟩
  case round =>
    obtain ⟨k, hk, rfl, ho, hg⟩ := hrel
    by_cases hlt : k < ys.length
    · have hcx : wr.cell? ⟨b, off + k, none⟩ = some (.int .i64 (ys.getD k 0)) := hg.cell (hc k hlt) (by simp)
      have hc0 := ho.cell k (by rw [fill_length ys k hk]; exact hlt)
      obtain ⟨hf0, hs0⟩ := ho.store k
      have hs1 := hs0 (ys.getD k 0)
      rw [fill_set ys k hlt] at hs1
      have hg' := grownBy_trans hg hs1.2 (fun j hj => .inr (by cases hj; exact Nat.le_refl _))
      generalize ys.getD k 0 = X at hcx hs1 hg'
      have HO : Hid (Row (wr.setCell ⟨w.heap.size, k, none⟩ (.int .i64 X)) w.heap.size w.heap.size (ys.take (k + 1) ++ List.replicate (ys.length - (k + 1)) 0) ∧ w.grownBy (wr.setCell ⟨w.heap.size, k, none⟩ (.int .i64 X)) none) := ⟨hs1.1, hg'⟩
      generalize (ys.take k ++ List.replicate (ys.length - k) 0).getD k 0 = Y at hc0
      clear hs0 hs1 hg' ho ho1'
      go_wp2_with fail
      go_roundw
      case rel => exact ⟨k + 1, by omega, by go_num, HO.out.1, HO.out.2⟩
      case measure => simp [intOf]; omega
    · have hk' : k = ys.length := by omega
      subst hk'
      go_wp2_with fail
      go_ret
      exact ⟨rfl, by simpa using ho, hg⟩

end Go.Proofs.Qxb6602894a

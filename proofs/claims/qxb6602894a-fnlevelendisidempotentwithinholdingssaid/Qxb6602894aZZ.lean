import Derived.Test.Qxb6602894aEnd
namespace Go.Proofs.Qxb6602894a
open Go.RowKit
set_option linter.unusedVariables false

theorem Try.info46 : (Try.prog.info? 46).map (fun i => (i.zero, i.size, i.bytes)) = some (some (.agg #[.int .i64 0, .int .i64 0]), 2, 16) := by kernel_rfl

/-- The levels' row: two cells a level; of the first k levels the second cell holds the quantity. -/
def Lev (w : World) (base g n k : Nat) (zs : List Int) : Prop :=
  ∃ L : List Value, w.ownsRow base 46 2 (.slice (some ⟨g, 0, none⟩) n n) n L ∧ ∀ j, j < k → L[j * 2 + 1]? = some (.int .i64 (zs.getD j 0))

theorem lev_step {w : World} {base g n k : Nat} {zs : List Int} {L : List Value} {X : Int} (hL : w.ownsRow base 46 2 (.slice (some ⟨g, 0, none⟩) n n) n L) (hk : k < n) (hLk : ∀ j, j < k → L[j * 2 + 1]? = some (.int .i64 (zs.getD j 0))) (hX : zs.getD k 0 = X) :
    Lev ((w.setCell ⟨g, k * 2, none⟩ (.int .i64 0)).setCell ⟨g, k * 2 + 1, none⟩ (.int .i64 X)) base g n (k + 1) zs ∧ w.grownBy ((w.setCell ⟨g, k * 2, none⟩ (.int .i64 0)).setCell ⟨g, k * 2 + 1, none⟩ (.int .i64 X)) (some g) := by
  have hl : L.length = n * 2 := hL.1
  have h1 := World.ownsRow.stored hL (k * 2) (.int .i64 0)
  have h2 := World.ownsRow.stored h1.1 (k * 2 + 1) (.int .i64 X)
  refine ⟨⟨_, h2.1, fun j hj => ?_⟩, grownBy_trans h1.2 h2.2 (fun k hk => .inl hk)⟩
  rcases Nat.lt_or_ge j k with h | h
  · rw [List.getElem?_set_ne (by omega), List.getElem?_set_ne (by omega)]
    exact hLk j h
  · have e : j = k := by omega
    subst e
    rw [List.getElem?_set_self (by simp; omega), hX]

theorem lev_cells {w : World} {base g n : Nat} {zs : List Int} (h : Lev w base g n n zs) : ∀ j, j < n → w.cell? ⟨g, j * 2 + 1, none⟩ = some (.int .i64 (zs.getD j 0)) := by
  obtain ⟨L, hL, hk⟩ := h
  intro j hj
  rw [World.ownsRow.cellAt hL (j * 2 + 1) (by omega)]
  exact hk j hj

theorem lev_lt {w : World} {base g n k : Nat} {zs : List Int} (h : Lev w base g n k zs) : base ≤ g ∧ g < w.heap.size := by
  obtain ⟨L, hL, _⟩ := h
  exact World.ownsRow.lt hL g rfl

set_option maxHeartbeats 1000000 in
theorem zz_any (w : World) (qb lv : Nat) (zs : List Int) (left q : Int) (cap : Nat) (hD : Dom left zs lv) (hq0 : 0 < q) (hq1 : q ≤ tot left zs lv (last zs lv)) (hl : zs.length ≤ 1000000)
    (hc : ∀ j, j < zs.length → w.cell? ⟨qb, j, none⟩ = some (.int .i64 (zs.getD j 0))) :
    Calls Try.prog 15 #[.slice (some ⟨qb, 0, none⟩) zs.length cap, .int .i64 (lv : Int), .int .i64 left, .int .i64 q] w fun e w' => EndPost left zs lv q e ∧ w.grownBy w' none := by
  obtain ⟨i0, hi, hz0, hz1, hz2⟩ := info_parts Try.info46
  go_enter Try.func15, Try.ntmps15
  go_wp2_with (at_make; refine wpList_make_full _ rfl _ _ 42 rfl w.heap.size 46 i0 (.agg #[.int .i64 0, .int .i64 0]) 2 Try.underlying42 hi hz0 hz1 _ _ _ _ zs.length rfl rfl rfl rfl (by rw [hz2]; omega) (by unfold maxLen; omega) (Nat.le_refl _) ?_; intro w1 ho1 hg1)
  have ho1' : Lev w1 w.heap.size w.heap.size zs.length 0 zs := ⟨_, ho1, fun j hj => by omega⟩
  clear ho1
  go_loopw [10] (fun i wr => ∃ k : Nat, k ≤ zs.length ∧ i = .int .i64 (k : Int) ∧ Lev wr w.heap.size w.heap.size zs.length k zs ∧ w.grownBy wr none) (fun i _ => zs.length - (intOf i).toNat)
  case atStart => exact ⟨0, by omega, rfl, ho1', hg1⟩
  case round =>
    obtain ⟨k, hk, rfl, ho, hg⟩ := hrel
    by_cases hlt : k < zs.length
    · have hcx : wr.cell? ⟨qb, k, none⟩ = some (.int .i64 (zs.getD k 0)) := hg.cell (hc k hlt) (by simp)
      obtain ⟨L, hL, hLk⟩ := ho
      have hLl : L.length = zs.length * 2 := hL.1
      have hca : wr.cell? ⟨w.heap.size, k * 2, none⟩ = some (L.getD (k * 2) undef) := by rw [World.ownsRow.cellAt hL (k * 2) (by omega)]; simp [show k * 2 < L.length by omega]
      have hcb : wr.cell? ⟨w.heap.size, k * 2 + 1, none⟩ = some (L.getD (k * 2 + 1) undef) := by rw [World.ownsRow.cellAt hL (k * 2 + 1) (by omega)]; simp [show k * 2 + 1 < L.length by omega]
      have hfa := World.ownsRow.frozenAt hL (k * 2)
      have hfb := World.ownsRow.frozenAt hL (k * 2 + 1)
      generalize hX : zs.getD k 0 = X at hcx
      have R := lev_step hL hlt hLk hX
      have HO : Hid (Lev ((wr.setCell ⟨w.heap.size, k * 2, none⟩ (.int .i64 0)).setCell ⟨w.heap.size, k * 2 + 1, none⟩ (.int .i64 X)) w.heap.size w.heap.size zs.length (k + 1) zs ∧ w.grownBy ((wr.setCell ⟨w.heap.size, k * 2, none⟩ (.int .i64 0)).setCell ⟨w.heap.size, k * 2 + 1, none⟩ (.int .i64 X)) none) := ⟨R.1, grownBy_trans hg R.2 (fun j hj => .inr (by cases hj; exact Nat.le_refl _))⟩
      clear R hL hLk hX ho1'
      go_wp2_with fail
      go_roundw
      case rel => exact ⟨k + 1, by omega, by go_num, HO.out.1, HO.out.2⟩
      case measure => simp [intOf]; omega
    · have hk' : k = zs.length := by omega
      rw [hk'] at ho
      have hcells := lev_cells ho
      have hlt2 := lev_lt ho
      go_wp2_with fail
      have hg2 := World.grownBy_alloc wr (.cells #[.slice (some ⟨w.heap.size, 0, none⟩) zs.length zs.length, .bool false, .slice none 0 0, .int .i64 (lv : Int), .int .i64 left] 50) none
      have hcn : ∀ j, (wr.alloc (.cells #[.slice (some ⟨w.heap.size, 0, none⟩) zs.length zs.length, .bool false, .slice none 0 0, .int .i64 (lv : Int), .int .i64 left] 50)).cell? ⟨wr.heap.size, j, none⟩ = (#[.slice (some ⟨w.heap.size, 0, none⟩) zs.length zs.length, .bool false, .slice none 0 0, .int .i64 (lv : Int), .int .i64 left] : Array Value)[j]? := fun j => cell_of_row _ _ j _ 50 (0, 0) (heap_alloc_new wr _)
      refine (levelEnd_any _ wr.heap.size w.heap.size lv zs left q hD hq0 hq1 hl (hcn 0) (hcn 3) (hcn 4) (fun j hj => hg2.cell (hcells j hj) (by simp)) (by simp) (by simp; omega)).mono ?_
      rintro e w3 ⟨⟨i, hF, rfl⟩, hg3⟩
      have HF : Hid (First left zs lv q i) := hF
      clear hF hcn hcells
      generalize hT : tot left zs lv i = T
      have HT : Hid (tot left zs lv i = T) := hT
      clear hT
      go_wp2_with fail
      go_ret
      exact ⟨⟨i, HF.out, by rw [HT.out]; rfl⟩, grownBy_trans (grownBy_trans hg hg2 (fun k hk => by cases hk)) hg3 (fun k hk => by cases hk)⟩

end Go.Proofs.Qxb6602894a

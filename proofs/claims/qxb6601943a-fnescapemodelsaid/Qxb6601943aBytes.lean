import Derived.WalkKit
import Derived.WalkSpells
import Derived.WalkLawsBesides
import Derived.ProofKit
import Derived.Deep.AppendSrc
import Derived.Laws.BytesArg
namespace Go.Proofs.Qxb6601943a
open Go.RowKit

/-- The byte slice v, not nil, begins at the head of one of the call's own rows (from block 'base' on) and holds xs. -/
def Own (w : World) (base : Nat) (v : Value) (xs : List Int) : Prop :=
  ∃ g cap cur tag, v = .slice (some ⟨g, 0, none⟩) xs.length cap ∧ base ≤ g ∧ w.heap[g]? = some (.cells cur tag (0, 0)) ∧ xs.length ≤ cap ∧ cap ≤ maxLen ∧ cur.size = cap ∧ cur.toList.take xs.length = xs.map (Value.int .u8)

def Step (w w' : World) (v v' : Value) : Prop :=
  w.grownBy w' v.ownBlock ∧ (v'.ownBlock = v.ownBlock ∨ ∃ k, v'.ownBlock = some k ∧ w.heap.size ≤ k)

theorem grownBy_trans {w w1 w2 : World} {r r2 : Option Nat} (h : w.grownBy w1 r) (h2 : w1.grownBy w2 r2) (hr : ∀ k, r2 = some k → r = some k ∨ w.heap.size ≤ k) : w.grownBy w2 r :=
  ⟨h2.os.trans h.os, h2.tape.trans h.tape, h2.output.trans h.output, Nat.le_trans h.size h2.size, fun k hk hne =>
    (h2.block k (Nat.lt_of_lt_of_le hk h.size) (fun e => by
      rcases hr k e.symm with h' | h'
      · exact hne h'.symm
      · omega)).trans (h.block k hk hne)⟩

theorem Step.refl (w : World) (v : Value) : Step w w v v := ⟨World.grownBy.refl _ _, .inl rfl⟩

theorem Step.trans {w w1 w2 : World} {v v1 v2 : Value} (h : Step w w1 v v1) (h2 : Step w1 w2 v1 v2) : Step w w2 v v2 := by
  have hs := h.1.size
  refine ⟨grownBy_trans h.1 h2.1 fun k hk => ?_, ?_⟩
  · rcases h.2 with e | ⟨k', e, hk'⟩
    · left; rw [← e]; exact hk
    · right; rw [e] at hk; cases hk; exact hk'
  · rcases h2.2 with e | ⟨k', e, hk'⟩
    · rw [e]; exact h.2
    · exact .inr ⟨k', e, by omega⟩

theorem Step.before {w w1 w2 : World} {v v2 : Value} (h : w.grownBy w1 none) (h2 : Step w1 w2 v v2) : Step w w2 v v2 := by
  have hs := h.size
  refine ⟨grownBy_trans ⟨h.os, h.tape, h.output, h.size, fun k hk _ => h.block k hk (by simp)⟩ h2.1 fun k hk => .inl hk, ?_⟩
  rcases h2.2 with e | ⟨k', e, hk'⟩
  · exact .inl e
  · exact .inr ⟨k', e, by omega⟩

theorem Step.below {w w' : World} {v v' : Value} {B : Nat} (h : Step w w' v v') (hB : B ≤ w.heap.size) (hv : ∀ k, v.ownBlock = some k → B ≤ k) : Below B w w' :=
  (Below.refl B w).grown h.1 hB hv

theorem grown_below {w w' : World} (h : w.grownBy w' none) : Below w.heap.size w w' := (Below.refl _ w).grown h (Nat.le_refl _) (fun k hk => by cases hk)

theorem below_grown {w w' : World} (h : Below w.heap.size w w') : w.grownBy w' none := ⟨h.os, h.tape, h.output, h.size, fun k hk _ => h.block k hk⟩

theorem Own.mono {w : World} {b b' : Nat} {v : Value} {xs : List Int} (h : Own w b v xs) (hb : b' ≤ b) : Own w b' v xs := by
  obtain ⟨g, cap, cur, tag, h1, h2, h3⟩ := h
  exact ⟨g, cap, cur, tag, h1, by omega, h3⟩

theorem Own.lt {w : World} {b : Nat} {v : Value} {xs : List Int} (h : Own w b v xs) : ∀ k, v.ownBlock = some k → b ≤ k ∧ k < w.heap.size := by
  obtain ⟨g, cap, cur, tag, rfl, h2, h3, _⟩ := h
  intro k hk
  simp [Value.ownBlock] at hk
  subst hk
  exact ⟨h2, (Array.getElem?_eq_some_iff.1 h3).1⟩

theorem Own.kept {w w' : World} {b : Nat} {v : Value} {xs : List Int} {row : Option Nat} (h : Own w b v xs) (hg : w.grownBy w' row) (hne : v.ownBlock ≠ row) : Own w' b v xs := by
  obtain ⟨g, cap, cur, tag, rfl, h2, h3, h4⟩ := h
  exact ⟨g, cap, cur, tag, rfl, h2, by rw [hg.block g (Array.getElem?_eq_some_iff.1 h3).1 (by simpa [Value.ownBlock] using hne)]; exact h3, h4⟩

theorem Own.isOwn {w : World} {b : Nat} {v : Value} {xs : List Int} (h : Own w b v xs) : v.ownBlock ≠ none := by
  obtain ⟨g, cap, cur, tag, rfl, _⟩ := h
  simp [Value.ownBlock]

theorem Own.keptNone {w w' : World} {b : Nat} {v : Value} {xs : List Int} (h : Own w b v xs) (hg : w.grownBy w' none) : Own w' b v xs := h.kept hg h.isOwn

theorem Own.alloc {w : World} {b : Nat} {v : Value} {xs : List Int} (h : Own w b v xs) (o : Obj) : Own (w.alloc o) b v xs := h.keptNone (World.grownBy_alloc w o none)

theorem Own.drew {w : World} {b : Nat} {v : Value} {xs : List Int} (h : Own w b v xs) : Own w.drew b v xs := h

theorem Own.drewN {w : World} {b : Nat} {v : Value} {xs : List Int} (h : Own w b v xs) (n : Nat) : Own (w.drewN n) b v xs := h

theorem Own.shape {w : World} {b : Nat} {v : Value} {xs : List Int} (h : Own w b v xs) : ∃ g cap, v = .slice (some ⟨g, 0, none⟩) xs.length cap ∧ b ≤ g ∧ g < w.heap.size ∧ ∀ j, j < xs.length → w.cell? ⟨g, 0 + j, none⟩ = some (.int .u8 (xs.getD j 0)) := by
  obtain ⟨g, cap, cur, tag, h1, h2, h3, h4, h5, h6, h7⟩ := h
  refine ⟨g, cap, h1, h2, (Array.getElem?_eq_some_iff.1 h3).1, fun j hj => ?_⟩
  rw [Nat.zero_add, cell_of_row w g j cur tag (0, 0) h3]
  have e : (cur.toList.take xs.length)[j]? = (xs.map (Value.int .u8))[j]? := by rw [h7]
  rw [List.getElem?_take, if_pos hj] at e
  rw [← Array.getElem?_toList, e]
  simp [hj]

/-- An empty slice at the head of a row that the call has laid. -/
theorem Own.empty {w : World} {b g cap : Nat} {cur : Array Value} {tag : TypeId} (hb : b ≤ g) (hg : w.heap[g]? = some (.cells cur tag (0, 0))) (hm : cap ≤ maxLen) (hs : cur.size = cap) : Own w b (.slice (some ⟨g, 0, none⟩) 0 cap) [] :=
  ⟨g, cap, cur, tag, rfl, hb, hg, Nat.zero_le _, hm, hs, by simp⟩

theorem Own.cut {w : World} {b g n cap : Nat} {xs : List Int} (h : Own w b (.slice (some ⟨g, 0, none⟩) n cap) xs) : Own w b (.slice (some ⟨g, 0, none⟩) 0 cap) [] := by
  obtain ⟨g', cap', cur, tag, h1, h2, h3, h4, h5, h6, h7⟩ := h
  cases h1
  exact Own.empty h2 h3 h5 h6

def SrcB (P : Program) (tx : TypeId) (sv : Value) (ys : List Int) (w : World) : Prop := Src P 1 tx sv ys.length (ys.map (Value.int .u8)) w

theorem SrcB.own {P : Program} {tx e : TypeId} (hk : P.underlying tx = some (.slice e)) {w : World} {b : Nat} {v : Value} {xs : List Int} (h : Own w b v xs) : SrcB P tx v xs w := by
  obtain ⟨g, cap, cur, tag, rfl, h2, h3, h4, h5, h6, h7⟩ := h
  refine Src.ofSlice w hk ⟨g, 0, none⟩ xs.length cap _ (by simp) (fun j u hu => ?_) (ints_oneCell _ _)
  have hadd : (⟨g, 0, none⟩ : Addr).add j = ⟨g, j, none⟩ := by unfold Addr.add; split <;> simp_all
  rw [hadd, cell_of_row w g j cur tag (0, 0) h3]
  rw [← h7, List.getElem?_take] at hu
  split at hu
  · simpa using hu
  · cases hu

/-- A slice literal in a new block. -/
theorem SrcB.lit {P : Program} {tx e : TypeId} (hk : P.underlying tx = some (.slice e)) (w : World) (ys : List Int) (tag : TypeId) : SrcB P tx (.slice (some ⟨w.heap.size, 0, none⟩) ys.length ys.length) ys (w.alloc (.cells (ys.map (Value.int .u8)).toArray tag)) := by
  refine Src.ofSlice _ hk ⟨w.heap.size, 0, none⟩ ys.length ys.length _ (by simp) (fun j u hu => ?_) (ints_oneCell _ _)
  have hadd : (⟨w.heap.size, 0, none⟩ : Addr).add j = ⟨w.heap.size, j, none⟩ := by unfold Addr.add; split <;> simp_all
  rw [hadd, cell_of_row _ _ j _ tag (0, 0) (heap_alloc_new w _)]
  simpa using hu

def nums (s : ByteArray) : List Int := s.data.toList.map fun c => (c.toNat : Int)

theorem nums_length (s : ByteArray) : (nums s).length = s.size := by simp [nums]

theorem SrcB.str {P : Program} {tx : TypeId} (hk : P.underlying tx = some .string) (w : World) (s : ByteArray) : SrcB P tx (.string s) (nums s) w := by
  have h := Src.ofString w hk s
  unfold SrcB
  rw [nums_length]
  have e : (nums s).map (Value.int .u8) = byteCells s := by simp [nums, byteCells]
  rw [e]
  exact h

theorem run_append_fits3 {P : Program} (w : World) (base : Nat) (t tx ty e : TypeId) (i : TypeInfo) (ht : P.underlying t = some (.slice e)) (hi : P.info? e = some i) (hsize : i.size = 1)
    (g n cap : Nat) (sv : Value) (xs ys : List Int) (hown : Own w base (.slice (some ⟨g, 0, none⟩) n cap) xs) (hsrc : SrcB P tx sv ys w) (hroom : xs.length + ys.length ≤ cap) :
    ∃ w', (Builtin.append_ #[t, tx] ty #[.slice (some ⟨g, 0, none⟩) n cap, sv]).run P w = .ok (.slice (some ⟨g, 0, none⟩) (n + ys.length) cap) w' ∧ Own w' base (.slice (some ⟨g, 0, none⟩) (n + ys.length) cap) (xs ++ ys) ∧ w.grownBy w' (some g) := by
  obtain ⟨g', cap', cur, tag, h1, h2, h3, h4, h5, h6, h7⟩ := hown
  cases h1
  have hst := run_storeCells_at P g xs.length tag (ys.map (Value.int .u8)) 0 cur w h3 (by simp; omega) hsrc.one
  simp only [Nat.add_zero] at hst
  refine ⟨w.setRow g (cur.toList.take xs.length ++ ys.map (Value.int .u8) ++ cur.toList.drop (xs.length + (ys.map (Value.int .u8)).length)).toArray, ?_, ⟨g, cap, _, tag, by rw [List.length_append], h2, setRow_heap w g cur _ tag _ h3, by rw [List.length_append]; exact hroom, h5, ?_, ?_⟩, ?_⟩
  · rcases hsrc.kind with ⟨e', hk⟩ | hk <;> simp [Builtin.append_, run_underlying ht, run_underlying hk, sizeOf, typeInfo, hi, hsrc.len, hroom, hsrc.cells, Addr.add_lit, hsize, hst]
  · simp only [List.size_toArray, List.length_append, List.length_take, List.length_drop, Array.length_toList, List.length_map]
    omega
  · have hl : (xs ++ ys).length = (cur.toList.take xs.length ++ ys.map (Value.int .u8)).length := by rw [h7]; simp
    rw [hl, List.take_left, h7, List.map_append]
  · exact ⟨rfl, rfl, rfl, by simp, fun k _ hk => setRow_other w g k _ (fun e => hk (by simp [e]))⟩

theorem run_append_own3 {P : Program} (w : World) (base : Nat) (t tx ty e : TypeId) (i : TypeInfo) (ht : P.underlying t = some (.slice e)) (hi : P.info? e = some i) (hz : i.zero = some (.int .u8 0))
    (hsize : i.size = 1) (hby : i.bytes = 1) (v sv : Value) (xs ys : List Int) (hown : Own w base v xs) (hsrc : SrcB P tx sv ys w) (hb : xs.length + ys.length ≤ 100000000) (hbase : base ≤ w.heap.size) :
    ∃ v' w', (Builtin.append_ #[t, tx] ty #[v, sv]).run P w = .ok v' w' ∧ Own w' base v' (xs ++ ys) ∧ Step w w' v v' := by
  have hbm : xs.length + ys.length ≤ maxLen := by unfold maxLen; omega
  have hown0 := hown
  obtain ⟨g, cap, cur, tag, rfl, h2, h3, h4, h5, h6, h7⟩ := hown
  by_cases hroom : xs.length + ys.length ≤ cap
  · obtain ⟨w', hr, ho, hg⟩ := run_append_fits3 (P := P) w base t tx ty e i ht hi hsize g xs.length cap sv xs ys hown0 hsrc hroom
    exact ⟨_, w', hr, ho, hg, .inl rfl⟩
  · have hsrc' : Src P i.size tx sv ys.length (ys.map (Value.int .u8)) w := by rw [hsize]; exact hsrc
    have hold : (Builtin.firstCells i.size xs.length (.slice (some ⟨g, 0, none⟩) xs.length cap)).run P w.drew = .ok (xs.map (Value.int .u8)).toArray w.drew := by
      refine run_firstCells_some w.drew i.size xs.length ⟨g, 0, none⟩ xs.length cap _ (by rw [hsize]; simp) (fun j u hu => ?_)
      have hadd : (⟨g, 0, none⟩ : Addr).add j = ⟨g, j, none⟩ := by unfold Addr.add; split <;> simp_all
      rw [hadd]
      show w.cell? _ = _
      rw [cell_of_row w g j cur tag (0, 0) h3]
      rw [← h7, List.getElem?_take] at hu
      split at hu
      · simpa using hu
      · cases hu
    have hr := run_append_grow_src (P := P) w t tx ty e i (.int .u8 0) ht hi hz (some ⟨g, 0, none⟩) xs.length cap (xs.map (Value.int .u8)) hold sv ys.length (ys.map (Value.int .u8)) hsrc' (by omega) (by omega) (growslice_fits (by omega) (by rw [hby]; omega))
    have hge := grownCap_ge w (xs.length + ys.length) cap e
    have hcm : grownCap w (xs.length + ys.length) cap e ≤ maxLen := grownCap_le_maxLen w _ cap e hbm
    refine ⟨_, _, hr, ⟨w.heap.size, _, _, e, by rw [List.length_append], hbase, heap_alloc_new w.drew _, by rw [List.length_append]; exact hge, hcm, ?_, ?_⟩, ⟨rfl, rfl, rfl, by simp, fun k hk hn => (World.grownBy_alloc w.drew _ _).block k hk hn⟩, .inr ⟨w.heap.size, rfl, Nat.le_refl _⟩⟩
    · simp only [Array.size_append, List.size_toArray, size_zeroCells, List.length_append, List.length_map]
      simp [Value.cells]
      omega
    · simp only [Array.toList_append]
      have hl : (xs ++ ys).length = (xs.map (Value.int .u8) ++ ys.map (Value.int .u8)).length := by simp
      rw [hl]
      simp only [List.map_append]
      exact List.take_left

theorem wp_append_bytes {P : Program} (w : World) {o : Oper} {a : Act} {K : Act → World → Prop} {Q : Exit → Act → World → Prop} (s x : Operand) (t tx : TypeId)
    (ho : o.op = .call { callee := .builtin .append, args := #[s, x], argTypes := #[t, tx] }) (base : Nat) (e : TypeId) (i : TypeInfo) (ht : P.underlying t = some (.slice e)) (hi : P.info? e = some i) (hz : i.zero = some (.int .u8 0))
    (hsize : i.size = 1) (hby : i.bytes = 1) (v sv : Value) (xs ys : List Int) (hs : a.eval s = v) (hx : a.eval x = sv) (hown : Own w base v xs) (hsrc : SrcB P tx sv ys w) (hb : xs.length + ys.length ≤ 100000000) (hbase : base ≤ w.heap.size)
    (h : ∀ v' w', Own w' base v' (xs ++ ys) → Step w w' v v' → K (a.put o.dst v') w') : o.wp P a w K Q := by
  obtain ⟨v', w', hr, h2, h3⟩ := run_append_own3 (P := P) w base t tx o.type e i ht hi hz hsize hby v sv xs ys hown hsrc hb hbase
  unfold Oper.wp execOp
  simp only [ho, resolve, invoke, builtin, Sem.run_bind, Sem.run_pure, Result.andThen_ok, List.map_toArray, List.map_cons, List.map_nil, hs, hx, hr]
  exact h v' w' h2 h3

theorem wp_append_fits3 {P : Program} (w : World) {o : Oper} {a : Act} {K : Act → World → Prop} {Q : Exit → Act → World → Prop} (s x : Operand) (t tx : TypeId)
    (ho : o.op = .call { callee := .builtin .append, args := #[s, x], argTypes := #[t, tx] }) (base : Nat) (e : TypeId) (i : TypeInfo) (ht : P.underlying t = some (.slice e)) (hi : P.info? e = some i)
    (hsize : i.size = 1) (g n cap : Nat) (sv : Value) (xs ys : List Int) (hs : a.eval s = .slice (some ⟨g, 0, none⟩) n cap) (hx : a.eval x = sv) (hown : Own w base (.slice (some ⟨g, 0, none⟩) n cap) xs) (hsrc : SrcB P tx sv ys w) (hroom : xs.length + ys.length ≤ cap)
    (h : ∀ w', Own w' base (.slice (some ⟨g, 0, none⟩) (n + ys.length) cap) (xs ++ ys) → w.grownBy w' (some g) → K (a.put o.dst (.slice (some ⟨g, 0, none⟩) (n + ys.length) cap)) w') : o.wp P a w K Q := by
  obtain ⟨w', hr, h2, h3⟩ := run_append_fits3 (P := P) w base t tx o.type e i ht hi hsize g n cap sv xs ys hown hsrc hroom
  unfold Oper.wp execOp
  simp only [ho, resolve, invoke, builtin, Sem.run_bind, Sem.run_pure, Result.andThen_ok, List.map_toArray, List.map_cons, List.map_nil, hs, hx, hr]
  exact h w' h2 h3

theorem wpList_append_bytes {P : Program} (w : World) {ops : Array Oper} {rest : List Oper} {o : Oper} {a : Act} {Q : Exit → Act → World → Prop} (hgd : o.guard = none) (s x : Operand) (t tx : TypeId)
    (ho : o.op = .call { callee := .builtin .append, args := #[s, x], argTypes := #[t, tx] }) (base : Nat) (e : TypeId) (i : TypeInfo) (ht : P.underlying t = some (.slice e)) (hi : P.info? e = some i) (hz : i.zero = some (.int .u8 0))
    (hsize : i.size = 1) (hby : i.bytes = 1) (v sv : Value) (xs ys : List Int) (hs : a.eval s = v) (hx : a.eval x = sv) (hown : Own w base v xs) (hsrc : SrcB P tx sv ys w) (hb : xs.length + ys.length ≤ 100000000) (hbase : base ≤ w.heap.size)
    (h : ∀ v' w', Own w' base v' (xs ++ ys) → Step w w' v v' → wpList P ops Q rest (a.put o.dst v') w') : wpList P ops Q (o :: rest) a w :=
  wpList_plain hgd fun _ hK => wp_append_bytes w s x t tx ho base e i ht hi hz hsize hby v sv xs ys hs hx hown hsrc hb hbase fun v' w' h2 h3 => hK _ _ (h v' w' h2 h3)

theorem wpList_append_fits3 {P : Program} (w : World) {ops : Array Oper} {rest : List Oper} {o : Oper} {a : Act} {Q : Exit → Act → World → Prop} (hgd : o.guard = none) (s x : Operand) (t tx : TypeId)
    (ho : o.op = .call { callee := .builtin .append, args := #[s, x], argTypes := #[t, tx] }) (base : Nat) (e : TypeId) (i : TypeInfo) (ht : P.underlying t = some (.slice e)) (hi : P.info? e = some i)
    (hsize : i.size = 1) (g n cap : Nat) (sv : Value) (xs ys : List Int) (hs : a.eval s = .slice (some ⟨g, 0, none⟩) n cap) (hx : a.eval x = sv) (hown : Own w base (.slice (some ⟨g, 0, none⟩) n cap) xs) (hsrc : SrcB P tx sv ys w) (hroom : xs.length + ys.length ≤ cap)
    (h : ∀ w', Own w' base (.slice (some ⟨g, 0, none⟩) (n + ys.length) cap) (xs ++ ys) → w.grownBy w' (some g) → wpList P ops Q rest (a.put o.dst (.slice (some ⟨g, 0, none⟩) (n + ys.length) cap)) w') : wpList P ops Q (o :: rest) a w :=
  wpList_plain hgd fun _ hK => wp_append_fits3 w s x t tx ho base e i ht hi hsize g n cap sv xs ys hs hx hown hsrc hroom fun w' h2 h3 => hK _ _ (h w' h2 h3)

theorem step_append_bytes {P : Program} (w : World) {ops : Array Oper} {o : Oper} {a : Act} {K : Act → World → Prop} {Q : Exit → Act → World → Prop} {E : Prop} (hgd : o.guard = none) (s x : Operand) (t tx : TypeId)
    (ho : o.op = .call { callee := .builtin .append, args := #[s, x], argTypes := #[t, tx] }) (base : Nat) (e : TypeId) (i : TypeInfo) (ht : P.underlying t = some (.slice e)) (hi : P.info? e = some i) (hz : i.zero = some (.int .u8 0))
    (hsize : i.size = 1) (hby : i.bytes = 1) (v sv : Value) (xs ys : List Int) (hs : a.eval s = v) (hx : a.eval x = sv) (hown : Own w base v xs) (hsrc : SrcB P tx sv ys w) (hb : xs.length + ys.length ≤ 100000000) (hbase : base ≤ w.heap.size)
    (h : ∀ v' w', Own w' base v' (xs ++ ys) → Step w w' v v' → K (a.put o.dst v') w') : if Region.wanted o (yielded ops a.tmps) = true then Oper.wp P o a w K Q else E := by
  have hw : Region.wanted o (yielded ops a.tmps) = true := by simp [Region.wanted, hgd]
  rw [if_pos hw]
  exact wp_append_bytes w s x t tx ho base e i ht hi hz hsize hby v sv xs ys hs hx hown hsrc hb hbase h

theorem step_append_fits3 {P : Program} (w : World) {ops : Array Oper} {o : Oper} {a : Act} {K : Act → World → Prop} {Q : Exit → Act → World → Prop} {E : Prop} (hgd : o.guard = none) (s x : Operand) (t tx : TypeId)
    (ho : o.op = .call { callee := .builtin .append, args := #[s, x], argTypes := #[t, tx] }) (base : Nat) (e : TypeId) (i : TypeInfo) (ht : P.underlying t = some (.slice e)) (hi : P.info? e = some i)
    (hsize : i.size = 1) (g n cap : Nat) (sv : Value) (xs ys : List Int) (hs : a.eval s = .slice (some ⟨g, 0, none⟩) n cap) (hx : a.eval x = sv) (hown : Own w base (.slice (some ⟨g, 0, none⟩) n cap) xs) (hsrc : SrcB P tx sv ys w) (hroom : xs.length + ys.length ≤ cap)
    (h : ∀ w', Own w' base (.slice (some ⟨g, 0, none⟩) (n + ys.length) cap) (xs ++ ys) → w.grownBy w' (some g) → K (a.put o.dst (.slice (some ⟨g, 0, none⟩) (n + ys.length) cap)) w') : if Region.wanted o (yielded ops a.tmps) = true then Oper.wp P o a w K Q else E := by
  have hw : Region.wanted o (yielded ops a.tmps) = true := by simp [Region.wanted, hgd]
  rw [if_pos hw]
  exact wp_append_fits3 w s x t tx ho base e i ht hi hsize g n cap sv xs ys hs hx hown hsrc hroom h

end Go.Proofs.Qxb6601943a

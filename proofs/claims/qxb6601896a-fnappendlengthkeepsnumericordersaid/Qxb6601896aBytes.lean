import Derived.WalkKit
import Derived.WalkSpells
import Derived.WalkLawsBesides
import Derived.ProofKit
namespace Go.Proofs.Qxb6601896a
open Go.RowKit

/-- The byte slice v is the call's own (its row lies from block 'base' on, at a row's head) and holds xs. -/
def Own (e : TypeId) (w : World) (base : Nat) (v : Value) (xs : List Int) : Prop := w.ownsRow base e 1 v xs.length (xs.map (Value.int .u8))

/-- The byte slice v, wherever it lies, reads as ys. -/
def Has (w : World) (v : Value) (ys : List Int) : Prop :=
  ∃ ao c, v = .slice ao ys.length c ∧ (ao = none → ys = [] ∧ c = 0) ∧ ∀ ad, ao = some ad → ∀ j u, (ys.map (Value.int .u8))[j]? = some u → w.cell? (ad.add j) = some u

/-- From w to w': new blocks, and writes to v's own row alone; v' lies in v's row or in a new one. -/
def Step (w w' : World) (v v' : Value) : Prop :=
  w.grownBy w' v.ownBlock ∧ (v'.ownBlock = v.ownBlock ∨ ∃ k, v'.ownBlock = some k ∧ w.heap.size ≤ k)

theorem grownBy_trans {w w1 w2 : World} {r r2 : Option Nat} (h : w.grownBy w1 r) (h2 : w1.grownBy w2 r2) (hr : ∀ k, r2 = some k → r = some k ∨ w.heap.size ≤ k) : w.grownBy w2 r :=
  ⟨h2.os.trans h.os, h2.tape.trans h.tape, h2.output.trans h.output, Nat.le_trans h.size h2.size, fun k hk hne =>
    (h2.block k (Nat.lt_of_lt_of_le hk h.size) (fun e => by
      rcases hr k e.symm with h' | h'
      · exact hne h'.symm
      · omega)).trans (h.block k hk hne)⟩

theorem Step.refl (w : World) (v : Value) : Step w w v v := ⟨World.grownBy.refl _ _, .inl rfl⟩

theorem Step.trans {w w1 w2 : World} {v v1 v2 : Value} (h : Step w w1 v v1) (h2 : Step w1 w2 v1 v2) : Step w w2 v v2 := by
  have hs := h.1.size
  refine ⟨grownBy_trans h.1 h2.1 fun k hk => ?_, ?_⟩
  · rcases h.2 with e | ⟨k', e, hk'⟩
    · left; rw [← e]; exact hk
    · right; rw [e] at hk; cases hk; exact hk'
  · rcases h2.2 with e | ⟨k', e, hk'⟩
    · rw [e]; exact h.2
    · exact .inr ⟨k', e, by omega⟩

/-- New blocks ahead of a step. -/
theorem Step.before {w w1 w2 : World} {v v2 : Value} (h : w.grownBy w1 none) (h2 : Step w1 w2 v v2) : Step w w2 v v2 := by
  have hs := h.size
  refine ⟨grownBy_trans ⟨h.os, h.tape, h.output, h.size, fun k hk _ => h.block k hk (by simp)⟩ h2.1 fun k hk => .inl hk, ?_⟩
  rcases h2.2 with e | ⟨k', e, hk'⟩
  · exact .inl e
  · exact .inr ⟨k', e, by omega⟩

theorem Step.below {w w' : World} {v v' : Value} {B : Nat} (h : Step w w' v v') (hB : B ≤ w.heap.size) (hv : ∀ k, v.ownBlock = some k → B ≤ k) : Below B w w' :=
  (Below.refl B w).grown h.1 hB hv

theorem Own.mono {e : TypeId} {w : World} {b b' : Nat} {v : Value} {xs : List Int} (h : Own e w b v xs) (hb : b' ≤ b) : Own e w b' v xs := by
  obtain ⟨h1, h2⟩ := h
  refine ⟨h1, ?_⟩
  rcases h2 with h2 | ⟨g, cap, cur, hv, hg, r⟩
  · exact .inl h2
  · exact .inr ⟨g, cap, cur, hv, by omega, r⟩

theorem Own.alloc {e : TypeId} {w : World} {b : Nat} {v : Value} {xs : List Int} (h : Own e w b v xs) (o : Obj) : Own e (w.alloc o) b v xs := World.ownsRow.alloc h o

theorem Own.kept {e : TypeId} {w w' : World} {b : Nat} {v : Value} {xs : List Int} {row : Option Nat} (h : Own e w b v xs) (hg : w.grownBy w' row) (hne : v.ownBlock = none ∨ v.ownBlock ≠ row) : Own e w' b v xs :=
  World.ownsRow.kept h hg hne

theorem Own.nil (e : TypeId) (w : World) (b : Nat) : Own e w b (.slice none 0 0) [] := World.ownsRow_nil w b e 1

theorem Own.lt {e : TypeId} {w : World} {b : Nat} {v : Value} {xs : List Int} (h : Own e w b v xs) : ∀ k, v.ownBlock = some k → b ≤ k ∧ k < w.heap.size := World.ownsRow.lt h

/-- One byte laid in a new block. -/
theorem Own.one (e : TypeId) (w : World) (b : Nat) (x : Int) (hb : b ≤ w.heap.size) : Own e (w.alloc (.cells #[.int .u8 x] e)) b (.slice (some ⟨w.heap.size, 0, none⟩) 1 1) [x] := by
  have h := World.ownsRow_lit (base := b) (e := e) (size := 1) w #[.int .u8 x] 1 hb (by unfold maxLen; omega) rfl
  exact h

theorem Own.has {e : TypeId} {w : World} {b : Nat} {v : Value} {xs : List Int} (h : Own e w b v xs) : Has w v xs := by
  rcases h.2 with ⟨rfl, h0⟩ | ⟨g, cap, cur, hv, _⟩
  · have h0' : xs = [] := List.eq_nil_of_length_eq_zero h0
    subst h0'
    exact ⟨none, 0, rfl, fun _ => ⟨rfl, rfl⟩, fun ad had => by cases had⟩
  · subst hv
    refine ⟨some ⟨g, 0, none⟩, cap, rfl, fun h' => (by cases h'), fun ad had => ?_⟩
    cases had
    exact World.ownsRow.cells h rfl

theorem Own.apart {e e' : TypeId} {w wr : World} {b : Nat} {v d : Value} {xs ys : List Int} (h : Own e w b v xs) (h2 : Own e' wr w.heap.size d ys) : d.ownBlock = none ∨ d.ownBlock ≠ v.ownBlock := by
  cases hd : d.ownBlock with
  | none => exact .inl rfl
  | some k =>
    right
    intro hk
    have h3 := (h.lt k hk.symm).2
    have h4 := (h2.lt k hd).1
    omega

theorem Own.row {e : TypeId} {w : World} {b : Nat} {v : Value} {xs : List Int} (h : Own e w b v xs) (hx : 1 ≤ xs.length) : ∃ g c, v = .slice (some ⟨g, 0, none⟩) xs.length c ∧ ∀ j, j < xs.length → w.cell? ⟨g, 0 + j, none⟩ = some (.int .u8 (xs.getD j 0)) := by
  rcases h.2 with ⟨_, h0⟩ | ⟨g, cap, cur, hv, _⟩
  · omega
  · subst hv
    refine ⟨g, cap, rfl, fun j hj => ?_⟩
    have hc := World.ownsRow.cells h (g := g) rfl j (.int .u8 (xs.getD j 0)) (by simp [hj])
    rw [Addr.add_lit] at hc
    exact hc

theorem Own.store {e : TypeId} {w : World} {b g n c : Nat} {xs : List Int} (h : Own e w b (.slice (some ⟨g, 0, none⟩) n c) xs) (j : Nat) (hj : j < xs.length) :
    w.cell? ⟨g, j, none⟩ = some (.int .u8 (xs.getD j 0)) ∧ w.frozen? ⟨g, j, none⟩ = false ∧ ∀ x, Own e (w.setCell ⟨g, j, none⟩ (.int .u8 x)) b (.slice (some ⟨g, 0, none⟩) n c) (xs.set j x) ∧ w.grownBy (w.setCell ⟨g, j, none⟩ (.int .u8 x)) (some g) := by
  have hn : n = xs.length := by
    rcases h.2 with ⟨h1, _⟩ | ⟨g', cap, cur, hv, _⟩
    · cases h1
    · cases hv; rfl
  subst hn
  refine ⟨?_, World.ownsRow.frozenAt h j, fun x => ?_⟩
  · rw [World.ownsRow.cellAt h j (by omega)]; simp [hj]
  · have hs := World.ownsRow.stored h j (.int .u8 x)
    refine ⟨?_, hs.2⟩
    have h1 := hs.1
    unfold Own
    rw [List.length_set, List.map_set]
    exact h1

theorem Has.shape {w : World} {v : Value} {ys : List Int} (h : Has w v ys) : ∃ ao c, v = .slice ao ys.length c := by
  obtain ⟨ao, c, h, _⟩ := h
  exact ⟨ao, c, h⟩

theorem Has.rowAt {w : World} {v : Value} {ys : List Int} (h : Has w v ys) (hp : 0 < ys.length) :
    ∃ b off c, v = .slice (some ⟨b, off, none⟩) ys.length c ∧ ∀ j, j < ys.length → w.cell? ⟨b, off + j, none⟩ = some (.int .u8 (ys.getD j 0)) := by
  obtain ⟨ao, c, rfl, hnone, hcells⟩ := h
  cases ao with
  | none => have := (hnone rfl).1; subst this; simp at hp
  | some ad =>
    obtain ⟨b, off, spot⟩ := ad
    have hc := hcells _ rfl
    have hg : ∀ j, j < ys.length → w.cell? ((⟨b, off, spot⟩ : Addr).add j) = some (.int .u8 (ys.getD j 0)) := fun j hj => hc j _ (by simp [hj])
    have hspot : spot = none := by simpa [Addr.add] using World.cell?_spot (hg 0 hp)
    subst hspot
    exact ⟨b, off, c, rfl, fun j hj => by rw [← Go.WideShapes.add_plain]; exact hg j hj⟩

theorem Has.kept {w w' : World} {v : Value} {ys : List Int} (h : Has w v ys) (hg : w.grownBy w' none) : Has w' v ys := by
  obtain ⟨ao, c, rfl, hnone, hcells⟩ := h
  exact ⟨ao, c, rfl, hnone, fun ad had j u hu => hg.cell (hcells ad had j u hu) (by simp)⟩

theorem grown_below {w w' : World} (h : w.grownBy w' none) : Below w.heap.size w w' := (Below.refl _ w).grown h (Nat.le_refl _) (fun k hk => by cases hk)

theorem below_grown {w w' : World} (h : Below w.heap.size w w') : w.grownBy w' none := ⟨h.os, h.tape, h.output, h.size, fun k hk _ => h.block k hk⟩

theorem Has.one (e : TypeId) (w : World) (x : Int) : Has (w.alloc (.cells #[.int .u8 x] e)) (.slice (some ⟨w.heap.size, 0, none⟩) 1 1) [x] := (Own.one e w 0 x (Nat.zero_le _)).has

theorem run_append_own2 {P : Program} (w : World) (base : Nat) (t ty e : TypeId) (i : TypeInfo) (ht : P.underlying t = some (.slice e)) (hi : P.info? e = some i) (hz : i.zero = some (.int .u8 0))
    (hsize : i.size = 1) (hby : i.bytes = 1) (v sv : Value) (xs ys : List Int) (hown : Own e w base v xs) (hsrc : Has w sv ys) (hb : xs.length + ys.length ≤ 100000000) (hbase : base ≤ w.heap.size) :
    ∃ v' w', (Builtin.append_ #[t, t] ty #[v, sv]).run P w = .ok v' w' ∧ Own e w' base v' (xs ++ ys) ∧ Step w w' v v' := by
  obtain ⟨ao, c, rfl, hnone, hcells⟩ := hsrc
  have hbm : xs.length + ys.length ≤ maxLen := by unfold maxLen; omega
  cases ao with
  | none =>
    obtain ⟨rfl, rfl⟩ := hnone rfl
    exact ⟨v, w, run_append_owned_none (P := P) w base t ty e i 1 ht hi v _ _ hown, by simpa [Own] using hown, Step.refl _ _⟩
  | some ad =>
    have hc := hcells ad rfl
    have h1 := ints_oneCell .u8 ys
    rcases hown.2 with ⟨hv, h0⟩ | ⟨g, cap, cur, hv, hg, hh, hcap, hcm, hsz, htake⟩
    · subst hv
      have h0' : xs = [] := List.eq_nil_of_length_eq_zero h0
      subst h0'
      obtain ⟨v', w', hr, ho, hgr, _⟩ := run_append_own (P := P) w w.heap.size t ty e i (.int .u8 0) 1 1 ht hi hz hsize hby rfl (by decide) (.slice none 0 0) 0 [] (World.ownsRow_nil w _ e 1) ad ys.length c (ys.map (Value.int .u8)) (by simp) hc h1 (by simpa using hbm) (by simp at hb ⊢; omega) (Nat.le_refl _)
      have ho' : Own e w' w.heap.size v' ([] ++ ys) := by simpa [Own] using ho
      refine ⟨v', w', hr, ho'.mono hbase, hgr, ?_⟩
      cases hk : v'.ownBlock with
      | none => exact .inl rfl
      | some k => exact .inr ⟨k, rfl, (ho'.lt k hk).1⟩
    · subst hv
      by_cases hroom : xs.length + ys.length ≤ cap
      · obtain ⟨w', hr, ho, hgr⟩ := run_append_fits (P := P) w base t ty e i 1 ht hi hsize g xs.length cap _ hown ad ys.length c (ys.map (Value.int .u8)) (by simp) hc h1 hroom
        exact ⟨_, w', hr, by simpa [Own] using ho, hgr, .inl rfl⟩
      · obtain ⟨v', w', hr, ho, hgr⟩ := run_append_arg_grows (P := P) w t ty e i (.int .u8 0) 1 1 ht hi hz hsize hby rfl (by decide) ⟨g, 0, none⟩ xs.length cap (xs.map (Value.int .u8)) (by simp) (World.ownsRow.cells hown rfl) ad ys.length c (ys.map (Value.int .u8)) (by simp) hc (by omega) hbm (by omega)
        have ho' : Own e w' w.heap.size v' (xs ++ ys) := by simpa [Own] using ho
        refine ⟨v', w', hr, ho'.mono hbase, ⟨hgr.os, hgr.tape, hgr.output, hgr.size, fun k hk _ => hgr.block k hk (by simp)⟩, ?_⟩
        rcases ho'.2 with ⟨_, h0⟩ | ⟨g', cap', cur', hv', hg', _⟩
        · simp only [List.length_append] at h0; omega
        · subst hv'
          exact .inr ⟨g', rfl, hg'⟩

theorem wpList_append_bytes {P : Program} (w : World) {ops : Array Oper} {rest : List Oper} {o : Oper} {a : Act} {Q : Exit → Act → World → Prop} (hgd : o.guard = none) (s x : Operand) (t : TypeId)
    (ho : o.op = .call { callee := .builtin .append, args := #[s, x], argTypes := #[t, t] }) (base : Nat) (e : TypeId) (i : TypeInfo) (ht : P.underlying t = some (.slice e)) (hi : P.info? e = some i) (hz : i.zero = some (.int .u8 0))
    (hsize : i.size = 1) (hby : i.bytes = 1) (v sv : Value) (xs ys : List Int) (hs : a.eval s = v) (hx : a.eval x = sv) (hown : Own e w base v xs) (hsrc : Has w sv ys) (hb : xs.length + ys.length ≤ 100000000) (hbase : base ≤ w.heap.size)
    (h : ∀ v' w', Own e w' base v' (xs ++ ys) → Step w w' v v' → wpList P ops Q rest (a.put o.dst v') w') : wpList P ops Q (o :: rest) a w := by
  refine wpList_plain hgd fun K hK => ?_
  obtain ⟨v', w', hr, h2, h3⟩ := run_append_own2 (P := P) w base t o.type e i ht hi hz hsize hby v sv xs ys hown hsrc hb hbase
  unfold Oper.wp execOp
  simp only [ho, resolve, invoke, builtin, Sem.run_bind, Sem.run_pure, Result.andThen_ok, List.map_toArray, List.map_cons, List.map_nil, hs, hx, hr]
  exact hK _ _ (h v' w' h2 h3)

end Go.Proofs.Qxb6601896a

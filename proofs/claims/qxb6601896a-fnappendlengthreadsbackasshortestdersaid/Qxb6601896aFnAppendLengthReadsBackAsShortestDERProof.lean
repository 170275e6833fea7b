import Derived.Test.Qxb6601896aRows
import Derived.WalkKit
import Derived.ProofKit
import Derived.OpenShut
import Derived.ShutString
import Derived.ChangeOld
import Derived.Below
import Derived.Test.Qxb6601896aAL
import Derived.Test.Qxb6601896aOrder
import Derived.Test.Qxb6601896aClone
import Derived.Test.Qxb6601896aSame
import Derived.Test.Qxb6601896aRead
namespace Go.Proofs.Qxb6601896a.fnAppendLengthReadsBackAsShortestDER
open Go.ChangeShapes Go.WideShapes Go.ChangeAt Go.RowKit
open Go.ChangeMaps (open_string shut_string)
set_option linter.unusedVariables false

theorem own : ownKnob Try.prog.godebug = none := by kernel_rfl
theorem laidOut : laidOutB Try.prog = true := by kernel_rfl

/-- WHAT THE WALK IS TOLD OF A SLICE OF INTEGERS THAT CAME IN: it is nil; or it leads to a row of 'cap' cells, the numbers 'zs' (the first 'len' are its elements, the rest its spare room), each fitting its kind. -/
def IsRow (k : IntKind) (w : World) (a : Option Addr) (len cap : Nat) (zs : List Int) : Prop :=
  (a = none ∧ len = 0 ∧ cap = 0 ∧ zs = []) ∨
  ∃ x, a = some x ∧ len ≤ cap ∧ cap ≤ maxLen ∧ zs.length = cap ∧ (∀ i, i < zs.length → w.cell? (x.add i) = some (.int k (zs.getD i 0))) ∧ ∀ n ∈ zs, (Lit.int k n).wf = true

theorem isRow_has {w : World} {a : Option Addr} {len cap : Nat} {zs : List Int} (h : IsRow .u8 w a len cap zs) : Has w (.slice a len cap) (zs.take len) ∧ (zs.take len).length = len ∧ len ≤ 9223372036854775807 := by
  rcases h with ⟨rfl, rfl, rfl, rfl⟩ | ⟨x, rfl, hl, hm, hz, hc, _⟩
  · exact ⟨Has.nil w, rfl, by omega⟩
  · have h := has_of_cells hl hz hc
    exact ⟨h.1, h.2, by unfold maxLen at hm; omega⟩

theorem has_drewN {w : World} {v : Value} {ys : List Int} (h : Has w v ys) (m : Nat) : Has (w.drewN m) v ys := h

theorem out_parts {w : World} {b : Nat} {v : Value} {ys zs : List Int} (h : Own 5 w b v (ys ++ zs)) (hz : 1 ≤ zs.length) :
    ∃ g c, v = .slice (some ⟨g, 0, none⟩) (ys.length + zs.length) c ∧ ys.length + zs.length ≤ c ∧ Has w (.slice (some ⟨g, 0, none⟩) ys.length c) ys ∧ Has w (.slice (some ⟨g, ys.length, none⟩) zs.length (c - ys.length)) zs := by
  rcases h.2 with ⟨_, h0⟩ | ⟨g, cap, cur, hv, _, _, hcap, _⟩
  · rw [List.length_append] at h0; omega
  · subst hv
    rw [List.length_append] at hcap
    have hc := World.ownsRow.cells h (g := g) rfl
    refine ⟨g, cap, by rw [List.length_append], hcap, ⟨some ⟨g, 0, none⟩, cap, rfl, fun h => (by cases h), fun ad had j u hu => ?_⟩, ⟨some ⟨g, ys.length, none⟩, cap - ys.length, rfl, fun h => (by cases h), fun ad had j u hu => ?_⟩⟩
    · cases had
      have hj := (List.getElem?_eq_some_iff.1 hu).1
      refine hc j u ?_
      rw [List.map_append, List.getElem?_append_left hj]
      exact hu
    · cases had
      have h2 := hc (ys.length + j) u (by rw [List.map_append, List.getElem?_append_right (by simp), List.length_map, Nat.add_sub_cancel_left]; exact hu)
      rw [Addr.add_lit] at h2 ⊢
      simpa using h2

set_option maxHeartbeats 1000000 in
theorem walk_long (a0 : Option Addr) (len0 cap0 : Nat) (a1 : Int) (w : World) (h : 1048576 < len0) (hm : len0 ≤ 9223372036854775807) :
    Calls Try.prog 4 #[.slice a0 len0 cap0, .int .i64 a1] w fun e w' => e = .returned (.bool true) ∧ Below w.heap.size w w' := by
  go_enter Try.func4, Try.ntmps4
  go_wp2_with fail
  refine (zzbytes14_no w a0 len0 cap0 a1 h hm).mono ?_
  rintro e w' ⟨rfl, rfl⟩
  go_wp2_with fail
  go_ret
  exact ⟨rfl, Below.refl _ _⟩

set_option maxHeartbeats 1000000 in
theorem walk_mid (a0 : Option Addr) (len0 cap0 : Nat) (a1 : Int) (w : World) (h : len0 ≤ 1048576) (hm : 65536 < len0) :
    Calls Try.prog 4 #[.slice a0 len0 cap0, .int .i64 a1] w fun e w' => e = .returned (.bool true) ∧ Below w.heap.size w w' := by
  go_enter Try.func4, Try.ntmps4
  go_wp2_with fail
  refine (zzbytes14 w a0 len0 cap0 a1 h).mono ?_
  rintro e w' ⟨rfl, rfl⟩
  go_wp2_with fail
  go_ret
  exact ⟨rfl, Below.refl _ _⟩

set_option maxHeartbeats 1000000 in
theorem walk_neg (a0 : Option Addr) (len0 cap0 : Nat) (a1 : Int) (w : World) (h : len0 ≤ 65536) (hm : a1 < 0) :
    Calls Try.prog 4 #[.slice a0 len0 cap0, .int .i64 a1] w fun e w' => e = .returned (.bool true) ∧ Below w.heap.size w w' := by
  go_enter Try.func4, Try.ntmps4
  go_wp2_with fail
  refine (zzbytes14 w a0 len0 cap0 a1 (by omega)).mono ?_
  rintro e w' ⟨rfl, rfl⟩
  go_wp2_with fail
  go_ret
  exact ⟨rfl, Below.refl _ _⟩

set_option maxRecDepth 100000 in
set_option maxHeartbeats 1000000 in
theorem walk_low (a0 : Option Addr) (len0 cap0 : Nat) (ys : List Int) (n : Nat) (w : World) (h : len0 ≤ 65536) (hv : Has w (.slice a0 len0 cap0) ys) (hl : ys.length = len0) (h1 : n < 9223372036854775808) :
    Calls Try.prog 4 #[.slice a0 len0 cap0, .int .i64 (n : Int)] w fun e w' => e = .returned (.bool true) ∧ Below w.heap.size w w' := by
  have hl' : ys.length ≤ 65536 := by omega
  have H1 : Hid (n < 9223372036854775808) := h1
  clear hl h1
  go_enter Try.func4, Try.ntmps4
  go_wp2_with fail
  refine (zzbytes14 w a0 len0 cap0 n (by omega)).mono ?_
  rintro e w' ⟨rfl, rfl⟩
  go_wp2_with fail
  refine (clone_any _ _ ys hv (by omega)).mono ?_
  rintro e w1 ⟨v1, rfl, ho1, hg1⟩
  go_wp2_with fail
  refine (clone_any w1 v1 ys ho1.has (by omega)).mono ?_
  rintro e w2 ⟨v2, rfl, ho2, hg2⟩
  go_wp2_with fail
  refine (zzal_any w2 _ v1 ys n (ho1.kept hg2 (by cases v1.ownBlock <;> simp)) (Nat.le_trans hg1.size hg2.size) (by omega) (by omega) (by have := H1.out; omega)).mono ?_
  rintro e w3 ⟨v3, zs, rfl, hz, ho3, hs3⟩
  have hb3 := hs3.below (Nat.le_trans hg1.size hg2.size) (fun k hk => (ho1.lt k hk).1)
  have hln := hz.length
  have ho2' := ho2.kept hs3.1 (ho1.apart ho2)
  obtain ⟨ao2, c2, rfl⟩ := ho2'.has.shape
  obtain ⟨g, c, rfl, hcap, hpre, hpost⟩ := out_parts ho3 hln.1
  have hfin : Below w'.heap.size w' w3 := ((grown_below hg1).trans ((grown_below hg2).mono hg1.size)).trans hb3
  have hsame := ho2'.has
  clear ho1 hg1 hg2 hb3 ho2 ho2' ho3 hs3 hv
  go_wp2_with fail
  refine (same_any w3 _ _ ys hpre hsame (by omega)).mono ?_
  rintro e w4 ⟨rfl, m, rfl⟩
  have hpost' := has_drewN hpost m
  clear hpost hpre hsame
  go_wp2_with fail
  refine (read_any _ _ n zs hpost' hz H1.out).mono ?_
  rintro e w5 ⟨rfl, rfl⟩
  have hwr : IntKind.u64.wrap (n : Int) = (n : Int) := by
    have := H1.out
    simp only [IntKind.wrap, IntKind.bits, IntKind.signed]
    simp
    omega
  have hsub : (ys.length : Int) + (zs.length : Int) - (ys.length : Int) = (zs.length : Int) := by omega
  clear hz hpost'
  generalize (n : Int) = N at hwr ⊢
  go_wp2_with fail
  go_ret
  exact ⟨rfl, below_drewN hfin m⟩

theorem walk (a0 : Option Addr) (len0 cap0 : Nat) (z0 : List Int) (a1 : Int) (w : World) (w0 : IsRow .u8 w a0 len0 cap0 z0) (w1 : (Lit.int .i64 a1).wf = true) :
    Calls Try.prog 4 #[.slice a0 len0 cap0, .int .i64 a1] w fun e w' => e = .returned (.bool true) ∧ Below w.heap.size w w' := by
  obtain ⟨hv, hl, hm⟩ := isRow_has w0
  have bd := bounds_i64 w1
  rcases Nat.lt_or_ge 1048576 len0 with h | h
  · exact walk_long a0 len0 cap0 a1 w h hm
  · rcases Nat.lt_or_ge 65536 len0 with h2 | h2
    · exact walk_mid a0 len0 cap0 a1 w h h2
    · rcases Int.lt_or_le a1 0 with h3 | h3
      · exact walk_neg a0 len0 cap0 a1 w h2 h3
      · obtain ⟨n, rfl⟩ := Int.eq_ofNat_of_zero_le h3
        exact walk_low a0 len0 cap0 _ n w h2 hv hl (by omega)

set_option maxRecDepth 100000 in
theorem lifted (os : Os) (started : os.Started) (H : Type) (enc : TypeId × Value → H) :
    ReturnsInHanded {} Try.checked os 4 .any (Rows.fnAppendLengthReadsBackAsShortestDERSpec.pre6 enc Try.prog Try.f4 Rows.fnAppendLengthReadsBackAsShortestDERRow.domain false) (Rows.fnAppendLengthReadsBackAsShortestDERSpec.post enc Try.prog Try.f4 false true false false) := by
  refine returnsInHanded_of_change (C := Try.checked) own started (by kernel_rfl) Try.func4
    (ChangeSpec.witness6 (enc := enc) (C := Try.checked) false ⟨#[], #[.slice none 0 0, .int .i64 0], []⟩ 8 (by kernel_rfl) (by kernel_rfl) (by kernel_rfl) (by kernel_rfl)) ?_
  intro W base args ds gs before hval0 hW hcnd _
  have hval : ∀ (j : Nat) t v, Try.f4.params[j]? = some t → args[j]? = some v → Value.okWide Try.prog W .any base t v := hval0
  have hW' := hW
  obtain ⟨p, q, hA0, hV, rfl, hfz, hnd⟩ := hW
  have hA : DataW.TrodAll enc Try.prog W 0 (fun _ => true) true Try.f4.params.toList args.toList ds p := hA0
  rw [Try.params4] at hA hval
  obtain ⟨v0, vs0, d0, ds0, p0, q0, hargs, rfl, rfl, h0, r0⟩ := trodAll_cons hA
  obtain ⟨v1, vs1, d1, ds1, p1, q1, rfl, rfl, rfl, h1, r1⟩ := trodAll_cons r0
  obtain ⟨rfl, rfl, rfl⟩ := trodAll_nil r1
  obtain rfl : args = #[v0, v1] := by cases args; simp_all
  obtain ⟨rfl, rfl⟩ := trodVars_none hV
  obtain ⟨a0, len0, cap0, rfl⟩ := okWide_slice Try.underlying22 (hval 0 22 v0 rfl rfl)
  have k0 := h0
  have lt0 : ∀ x ∈ p0, x.block < W.heap.size := by obtain ⟨m, hm⟩ := k0; exact DataW.trod_lt m _ _ _ hm
  obtain ⟨z0, w0⟩ : ∃ zs, IsRow .u8 W a0 len0 cap0 zs := by
    obtain ⟨fuel, hf⟩ := h0
    rcases open_ints Try.underlying22 Try.underlying5 (by kernel_rfl) hf with ⟨hcs, _⟩ | ⟨x, l, c, zs, hcs, _, hl, hm, hz, _, hcell, hwz⟩
    · simp [Value.cells] at hcs
      obtain ⟨rfl, rfl, rfl⟩ := hcs
      exact ⟨[], .inl ⟨rfl, rfl, rfl, rfl⟩⟩
    · simp [Value.cells] at hcs
      obtain ⟨rfl, rfl, rfl⟩ := hcs
      exact ⟨zs, .inr ⟨_, rfl, hl, hm, by simpa using hz, hcell, hwz⟩⟩
  obtain ⟨a1, rfl, rfl, rfl, w1⟩ := open_int Try.underlying3 (hval 1 3 v1 rfl rfl) h1
  clear hA0 hval0
  refine (walk a0 len0 cap0 z0 a1 W w0 w1).mono fun e W' ⟨he, bel⟩ => ?_
  subst he
  exact ⟨_, rfl, _, _, _, [], _, [], hW', trodAll_mk1 (shut_bool Try.underlying4 _), (trodAll_cons_mk (Below.trod laidOut (by kernel_rfl) (of_decide_eq_true (by kernel_rfl)) k0 bel lt0) (trodAll_cons_mk (shut_int Try.underlying3 w1) trodAll_mk0)), rfl, bel.frame _, fun h => by cases h⟩

theorem over : Rows.fnAppendLengthReadsBackAsShortestDERRow.holds Try.pinned (OpenSpec.ofChange Rows.fnAppendLengthReadsBackAsShortestDERSpec) :=
  OpenClaim.holds_of_wide 4 Try.f4 rfl rfl rfl rfl rfl rfl rfl ⟨rfl, rfl, rfl, rfl, rfl⟩ rfl rfl rfl rfl rfl (by kernel_rfl) Try.func4 (by kernel_rfl)
    (of_decide_eq_true (by kernel_rfl)) (by unfold Func.isWrapper; first | (rw [if_pos (by decide +kernel)]; kernel_rfl) | (rw [if_neg (by decide +kernel)]; exact ⟨rfl, rfl⟩))
    (fun os started H enc _ => lifted os started H enc)

theorem proved : Rows.FnAppendLengthReadsBackAsShortestDERSaid := over
end Go.Proofs.Qxb6601896a.fnAppendLengthReadsBackAsShortestDER

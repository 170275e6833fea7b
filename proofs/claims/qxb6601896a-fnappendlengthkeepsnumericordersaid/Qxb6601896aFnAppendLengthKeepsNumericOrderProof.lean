import Derived.Test.Qxb6601896aRows
import Derived.WalkKit
import Derived.ProofKit
import Derived.OpenShut
import Derived.ShutString
import Derived.ChangeOld
import Derived.Below
import Derived.Test.Qxb6601896aAL
import Derived.Test.Qxb6601896aCmp
namespace Go.Proofs.Qxb6601896a.fnAppendLengthKeepsNumericOrder
open Go.ChangeShapes Go.WideShapes Go.ChangeAt Go.RowKit
open Go.ChangeMaps (open_string shut_string)
set_option linter.unusedVariables false      -- a walk need not use every 'w<i>' (that an integer argument fits its kind)

theorem own : ownKnob Try.prog.godebug = none := by kernel_rfl

set_option maxHeartbeats 1000000 in
theorem walk (a0 : Int) (a1 : Int) (w0 : (Lit.int .i64 a0).wf = true) (w1 : (Lit.int .i64 a1).wf = true) (w : World) :
    Calls Try.prog 5 #[.int .i64 a0, .int .i64 a1] w fun e w' => e = .returned (.bool true) ∧ Below w.heap.size w w' := by
  have bd0 := bounds_i64 w0
  have bd1 := bounds_i64 w1
  clear w0 w1
  by_cases h0 : a0 < 0
  · go_enter Try.func5, Try.ntmps5
    go_wp2_with fail
    go_ret
    exact ⟨rfl, Below.refl _ _⟩
  · by_cases h1 : a1 < 0
    · go_enter Try.func5, Try.ntmps5
      go_wp2_with fail
      go_ret
      exact ⟨rfl, Below.refl _ _⟩
    · go_enter Try.func5, Try.ntmps5
      go_wp2_with fail
      refine (zzal_any w w.heap.size (.slice none 0 0) [] a0 (Own.nil _ _ _) (Nat.le_refl _) (by simp) (by omega) (by omega)).mono ?_
      rintro e w1 ⟨v1, zs1, rfl, hz1, ho1, hs1⟩
      have hb1 := hs1.below (Nat.le_refl _) (by intro k hk; simp [Value.ownBlock] at hk)
      go_wp2_with fail
      refine (zzal_any w1 w1.heap.size (.slice none 0 0) [] a1 (Own.nil _ _ _) (Nat.le_refl _) (by simp) (by omega) (by omega)).mono ?_
      rintro e w2 ⟨v2, zs2, rfl, hz2, ho2, hs2⟩
      have hb2 := hs2.below (Nat.le_refl _) (by intro k hk; simp [Value.ownBlock] at hk)
      simp only [List.nil_append] at ho1 ho2
      have ho1' := ho1.kept hs2.1 (by cases v1.ownBlock <;> simp [Value.ownBlock])
      have hl1 := hz1.length
      have hl2 := hz2.length
      obtain ⟨g1, c1, rfl, hc1⟩ := ho1'.row hl1.1
      obtain ⟨g2, c2, rfl, hc2⟩ := ho2.row hl2.1
      go_wp2_with fail
      refine (cmp_any w2 g1 0 c1 g2 0 c2 zs1 zs2 hc1 hc2 (by omega) (by omega)).mono ?_
      rintro e w3 ⟨rfl, n, rfl⟩
      have hfin : Below w.heap.size w (w2.drewN n) := below_drewN (hb1.trans (hb2.mono hb1.size)) n
      clear hb1 hb2 hs1 hs2 ho1 ho2 ho1' hc1 hc2
      rcases Int.lt_trichotomy a0 a1 with h | h | h
      · rw [lenBytes_lt a0 a1 zs1 zs2 (by omega) h hz1 hz2]
        go_wp2_with fail
        go_ret
        exact ⟨rfl, hfin⟩
      · subst h
        rw [lenBytes_eq a0 zs1 zs2 hz1 hz2, cmp_self]
        go_wp2_with fail
        go_ret
        exact ⟨rfl, hfin⟩
      · rw [cmp_swap zs2 zs1, lenBytes_lt a1 a0 zs2 zs1 (by omega) h hz2 hz1]
        go_wp2_with fail
        go_ret
        exact ⟨rfl, hfin⟩

set_option maxRecDepth 100000 in
theorem lifted (os : Os) (started : os.Started) (H : Type) (enc : TypeId × Value → H) :
    ReturnsInHanded {} Try.checked os 5 .any (Rows.fnAppendLengthKeepsNumericOrderSpec.pre6 enc Try.prog Try.f5 Rows.fnAppendLengthKeepsNumericOrderRow.domain false) (Rows.fnAppendLengthKeepsNumericOrderSpec.post enc Try.prog Try.f5 false true false false) := by
  refine returnsInHanded_of_change (C := Try.checked) own started (by kernel_rfl) Try.func5
    (ChangeSpec.witness6 (enc := enc) (C := Try.checked) false ⟨#[], #[.int .i64 0, .int .i64 0], []⟩ 8 (by kernel_rfl) (by kernel_rfl) (by kernel_rfl) (by kernel_rfl)) ?_
  intro W base args ds gs before hval0 hW hcnd _
  have hval : ∀ (j : Nat) t v, Try.f5.params[j]? = some t → args[j]? = some v → Value.okWide Try.prog W .any base t v := hval0
  have hW' := hW
  obtain ⟨p, q, hA0, hV, rfl, hfz, hnd⟩ := hW
  have hA : DataW.TrodAll enc Try.prog W 0 (fun _ => true) true Try.f5.params.toList args.toList ds p := hA0
  rw [Try.params5] at hA hval
  obtain ⟨v0, vs0, d0, ds0, p0, q0, hargs, rfl, rfl, h0, r0⟩ := trodAll_cons hA
  obtain ⟨v1, vs1, d1, ds1, p1, q1, rfl, rfl, rfl, h1, r1⟩ := trodAll_cons r0
  obtain ⟨rfl, rfl, rfl⟩ := trodAll_nil r1
  obtain rfl : args = #[v0, v1] := by cases args; simp_all
  obtain ⟨rfl, rfl⟩ := trodVars_none hV
  obtain ⟨a0, rfl, rfl, rfl, w0⟩ := open_int Try.underlying3 (hval 0 3 v0 rfl rfl) h0
  obtain ⟨a1, rfl, rfl, rfl, w1⟩ := open_int Try.underlying3 (hval 1 3 v1 rfl rfl) h1
  clear hA0 hval0
  simp only [List.append_nil] at hW'
  refine (walk a0 a1 w0 w1 W).mono fun e W' ⟨he, hg⟩ => ?_
  subst he
  exact ⟨_, rfl, _, _, _, [], [], [], hW', trodAll_mk1 (shut_bool Try.underlying4 _), (trodAll_cons_mk (shut_int Try.underlying3 w0) (trodAll_cons_mk (shut_int Try.underlying3 w1) trodAll_mk0)), rfl, hg.frame _, fun h => by cases h⟩

theorem over : Rows.fnAppendLengthKeepsNumericOrderRow.holds Try.pinned (OpenSpec.ofChange Rows.fnAppendLengthKeepsNumericOrderSpec) :=
  OpenClaim.holds_of_wide 5 Try.f5 rfl rfl rfl rfl rfl rfl rfl ⟨rfl, rfl, rfl, rfl, rfl⟩ rfl rfl rfl rfl rfl (by kernel_rfl) Try.func5 (by kernel_rfl)
    (of_decide_eq_true (by kernel_rfl)) (by unfold Func.isWrapper; first | (rw [if_pos (by decide +kernel)]; kernel_rfl) | (rw [if_neg (by decide +kernel)]; exact ⟨rfl, rfl⟩))
    (fun os started H enc _ => lifted os started H enc)

theorem proved : Rows.FnAppendLengthKeepsNumericOrderSaid :=
  over
end Go.Proofs.Qxb6601896a.fnAppendLengthKeepsNumericOrder

import Derived.Test.Qxb6601943aEsc
import Derived.OpenShut
namespace Go.Proofs.Qxb6601943a
open Go.RowKit
set_option linter.unusedVariables false

set_option maxHeartbeats 400000 in
theorem zzescape_any (w : World) (kb : Nat) (s : ByteArray) (K : Nat → Bool) (p : Int) (hk : Kept w kb K) (hkb : kb < w.heap.size) (hs : s.size ≤ 2000000) (hp0 : 0 ≤ p) (hp2 : p ≤ 2) :
    Calls Try.prog 7 #[.string s, .pointer (some ⟨kb, 0, none⟩), .int .i64 p] w fun e w' => e = .returned (.string (strOfNums (esc K p (nums s)))) ∧ w.grownBy w' none := by
  go_enter Try.func7, Try.ntmps7
  go_wp2_with fail
  refine (escape_any w kb s K p hk hkb hs hp0 hp2).mono ?_
  rintro e w' ⟨rfl, hg⟩
  go_wp2_with fail
  go_ret
  exact ⟨rfl, hg⟩

set_option maxHeartbeats 400000 in
theorem zzbytes9_yes (w : World) (s : ByteArray) (cs : Array Value) (hs : s.size ≤ 1048576) :
    Calls Try.prog 9 #[.string s, .agg cs] w fun e w' => e = .returned (.bool true) ∧ w.grownBy w' none := by
  go_enter Try.func9, Try.ntmps9
  go_wp2_with fail
  go_ret
  exact ⟨rfl, World.grownBy_alloc _ _ _⟩

set_option maxHeartbeats 400000 in
theorem zzbytes9_no (w : World) (s : ByteArray) (cs : Array Value) (hs : 1048576 < s.size) (hm : s.size ≤ 9223372036854775807) :
    Calls Try.prog 9 #[.string s, .agg cs] w fun e w' => e = .returned (.bool false) ∧ w.grownBy w' none := by
  go_enter Try.func9, Try.ntmps9
  go_wp2_with fail
  go_ret
  exact ⟨rfl, World.grownBy_alloc _ _ _⟩

/-- The array by value, as the row reads it: 256 bools. -/
def Bools (cs : Array Value) (K : Nat → Bool) : Prop := cs.size = 256 ∧ ∀ i, i < 256 → cs[i]? = some (.bool (K i))

theorem kept_alloc {w : World} {cs : Array Value} {K : Nat → Bool} (h : Bools cs K) (t : TypeId) : Kept (w.alloc (.cells cs t)) w.heap.size K := fun i hi => by
  rw [cell_of_row _ _ i cs t (0, 0) (heap_alloc_new w _)]
  exact h.2 i hi

theorem kept_grown {w w' : World} {kb : Nat} {K : Nat → Bool} (h : Kept w kb K) (hk : kb < w.heap.size) (hg : w.grownBy w' none) : Kept w' kb K := h.below (grown_below hg) hk

open Go.ChangeShapes Go.WideShapes in
/-- An array of 256 bools by value, opened. -/
theorem open_bools {H : Type} {enc : TypeId × Value → H} {P : Program} {w : World} {base : Nat} {spare : Nat → Bool} {held : Bool} {r : Reach} {b0 : Nat} {t e : TypeId} {v : Value} {d : DataW H} {p : List MemPlace}
    (ht : P.underlying t = some (.array 256 e)) (he : P.underlying e = some .bool) (hce : P.cellsOf e = 1) (hct : P.cellsOf t = 256) (hv : Value.okWide P w r b0 t v) (h : DataW.Trod enc P w base spare held t v d p) :
    ∃ cs K, v = .agg cs ∧ Bools cs K := by
  simp only [Value.okWide, ht] at hv
  obtain ⟨cs, rfl, hsz, _⟩ := hv
  obtain ⟨fuel, hf⟩ := h
  obtain ⟨xs, m, _, _, hl, hxl, hx⟩ := DataW.trod_array ht hf
  refine ⟨cs, fun i => match cs[i]? with | some (.bool b) => b | _ => false, rfl, hsz.trans hct, fun i hi => ?_⟩
  have h1 := hx i hi
  rw [hce, Nat.mul_one, List.getElem?_eq_getElem (by omega)] at h1
  obtain ⟨b, hb, _⟩ := DataW.trod_bool he h1
  have h2 : cs[i]? = some (.bool b) := by
    have h3 := congrArg (fun l : List Value => l[0]?) hb
    simpa [Value.cells, List.getElem?_take, List.getElem?_drop] using h3
  simp only [h2]

end Go.Proofs.Qxb6601943a

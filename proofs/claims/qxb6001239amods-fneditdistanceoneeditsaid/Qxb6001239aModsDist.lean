/-
  SEAT b6001239aM: the distance of two lists of runes, and the call that computes it.
-/
import Derived.Test.Qxb6001239aModsSmall
import Derived.Test.Qxb6001239aModsEdit
namespace Go.Proofs.Qxb6001239aMods
open Go.RowKit
/-- The distance of two lists of runes. -/
def dist (xs ys : List Int) : Nat := D (fun k => xs.getD k 0) (fun k => ys.getD k 0) xs.length ys.length

theorem zz_any (a b : ByteArray) (w : World) (ha : a.size ≤ 65536) (hb : b.size ≤ 65536) :
    Calls Trym.prog 10 #[.string a, .string b] w fun e w' => e = .returned (.int .i64 (dist (runesOf a) (runesOf b) : Nat)) ∧ Below w.heap.size w w' := by
  go_enter Trym.func10, Trym.ntmps10
  go_wp2_with fail
  refine (ed_any a b _ ha hb).mono ?_
  rintro e w' ⟨rfl, h⟩
  have HB : Hid _ := h
  clear h
  go_wp2
  go_ret
  exact ⟨rfl, HB.out⟩

theorem dist_lower (xs ys : List Int) : xs.length ≤ dist xs ys + ys.length ∧ ys.length ≤ dist xs ys + xs.length := D_lower _ _
theorem dist_upper (xs ys : List Int) : dist xs ys ≤ max xs.length ys.length := D_upper _ _
theorem dist_zero (xs ys : List Int) : dist xs ys = 0 ↔ xs = ys := by
  unfold dist
  rw [D_zero_iff]
  constructor
  · rintro ⟨h1, h2⟩
    apply List.ext_getElem h1
    intro j a b
    have := h2 j a
    simpa [List.getD, a, b] using this
  · rintro rfl
    exact ⟨rfl, fun _ _ => rfl⟩
end Go.Proofs.Qxb6001239aMods

/-
  SEAT b6001239aM: the small callees of the two laws.
-/
import Derived.Test.Qxb6001239aModsMem
namespace Go.Proofs.Qxb6001239aMods
open Go.RowKit

/-- It answers a bool; the world is as it was. -/
def AnswersB (w : World) (e : Ending) (w' : World) : Prop := ∃ r, e = .returned (.bool r) ∧ w' = w
theorem answersB (r : Bool) (w : World) : AnswersB w (.returned (.bool r)) w := ⟨r, rfl, rfl⟩

theorem bytes11_any (a b : ByteArray) (w : World) (ha : a.size ≤ maxLen) (hb : b.size ≤ maxLen) : Calls Trym.prog 11 #[.string a, .string b] w fun e w' => AnswersB w e w' := by
  unfold maxLen at ha hb
  go_enter Trym.func11, Trym.ntmps11
  go_wp2
  all_goals (go_ret; exact answersB _ _)

theorem bytes13_any (a : ByteArray) (k r : Int) (w : World) (ha : a.size ≤ maxLen) : Calls Trym.prog 13 #[.string a, .int .i64 k, .int .i32 r] w fun e w' => AnswersB w e w' := by
  unfold maxLen at ha
  go_enter Trym.func13, Trym.ntmps13
  go_wp2
  all_goals (go_ret; exact answersB _ _)

/-- The rune that stands for r. -/
def vrune (r : Int) : Int := if Utf8.valid r then r else 65533
theorem vrune_valid (r : Int) : Utf8.valid (vrune r) = true := by
  unfold vrune
  split
  · assumption
  · decide

theorem ret_int {k : IntKind} {a b : Int} (h : a = b) : Ending.returned (.int k a) = .returned (.int k b) := by rw [h]

theorem vrune_any (r : Int) (w : World) : Calls Trym.prog 14 #[.int .i32 r] w fun e w' => e = .returned (.int .i32 (vrune r)) ∧ w' = w := by
  by_cases hv : Utf8.valid r = true
  · have e : vrune r = r := by unfold vrune; rw [if_pos hv]
    rw [e]
    simp [Utf8.valid] at hv
    have h1 : ¬ r < 0 := by omega
    have h2 : ¬ 1114111 < r := by omega
    by_cases h3 : 55296 ≤ r
    · have h4 : ¬ r ≤ 57343 := by omega
      clear hv e
      go_enter Trym.func14, Trym.ntmps14
      go_wp2
      go_ret
      exact ⟨rfl, rfl⟩
    · clear hv e
      go_enter Trym.func14, Trym.ntmps14
      go_wp2
      go_ret
      exact ⟨rfl, rfl⟩
  · have e : vrune r = 65533 := by unfold vrune; rw [if_neg hv]
    rw [e]
    simp [Utf8.valid] at hv
    clear e
    go_enter Trym.func14, Trym.ntmps14
    go_wp2
    all_goals first | (exfalso; omega) | (go_ret; exact ⟨rfl, rfl⟩)

def eqB (xs ys : List Int) : Bool := decide (xs = ys)

set_option maxHeartbeats 400000 in
theorem runesEq_any (bx by' capx capy nx ny : Nat) (xs ys : List Int) (w : World) (hx : xs.length = nx) (hy : ys.length = ny) (hnx : nx ≤ 65536) (hny : ny ≤ 65536)
    (cx : ∀ k, k < nx → w.cell? ⟨bx, k, none⟩ = some (.int .i32 (xs.getD k 0))) (cy : ∀ k, k < ny → w.cell? ⟨by', k, none⟩ = some (.int .i32 (ys.getD k 0))) :
    Calls Trym.prog 12 #[.slice (some ⟨bx, 0, none⟩) nx capx, .slice (some ⟨by', 0, none⟩) ny capy] w fun e w' => e = .returned (.bool (eqB xs ys)) ∧ Below w.heap.size w w' := by
  by_cases hn : nx = ny
  · subst hn
    have HX : Hid (xs.length = nx ∧ ys.length = nx) := ⟨hx, hy⟩
    clear hx hy
    go_enter Trym.func12, Trym.ntmps12
    go_wp2
    go_loopw [5] (fun i wr => ∃ k m : Nat, k ≤ nx ∧ i = .int .i64 k ∧ wr = w.drewN m ∧ ∀ j, j < k → xs.getD j 0 = ys.getD j 0) (fun i _ => nx - (intOf i).toNat)
    case atStart => exact ⟨0, 0, Nat.zero_le _, rfl, rfl, fun j h => absurd h (by omega)⟩
    case round =>
      obtain ⟨k, m, hk, rfl, rfl, hall⟩ := hrel
      by_cases hlt : k < nx
      · have c1 := cx k hlt
        have c2 := cy k hlt
        obtain ⟨x, hx⟩ : ∃ x, xs.getD k 0 = x := ⟨_, rfl⟩
        obtain ⟨y, hy⟩ : ∃ y, ys.getD k 0 = y := ⟨_, rfl⟩
        rw [hx] at c1
        rw [hy] at c2
        have i0 : (0 : Int) ≤ (k : Int) := by omega
        have i1 : (k : Int) < (nx : Int) := by omega
        have HH : Hid _ := And.intro hall (And.intro hx hy)
        clear hall hx hy cx cy
        by_cases hxy : x = y
        · have hb : (x != y) = false := by simp [hxy]
          have HE : Hid _ := hxy
          clear hxy
          go_wp2
          go_quiet (fail)
          clear hb c1 c2
          go_wp2
          go_roundw
          case rel => exact ⟨k + 1, _, by omega, by go_num, rfl, fun j hj => by by_cases h : j = k
                                                                                · rw [h, HH.out.2.1, HH.out.2.2]; exact HE.out
                                                                                · exact HH.out.1 j (by omega)⟩
          case measure => simp [intOf]; omega
        · have hb : (x != y) = true := by simp [hxy]
          have HE : Hid (eqB xs ys = false) := by
            show eqB xs ys = false
            unfold eqB
            simp only [decide_eq_false_iff_not]
            intro h
            exact hxy (by rw [← HH.out.2.1, ← HH.out.2.2, h])
          clear hxy
          go_wp2
          go_quiet (fail)
          clear hb c1 c2
          go_wp2
          go_ret
          exact ⟨by rw [HE.out]; rfl, ⟨rfl, rfl, rfl, Nat.le_refl _, fun _ _ => rfl⟩⟩
      · have HE : Hid (eqB xs ys = true) := by
          show eqB xs ys = true
          unfold eqB
          simp only [decide_eq_true_eq]
          apply List.ext_getElem (by rw [HX.out.1, HX.out.2])
          intro j h1 h2
          have := hall j (by have := HX.out.1; omega)
          simpa [List.getD, h1, h2] using this
        clear hall cx cy
        go_wp2
        go_ret
        exact ⟨by rw [HE.out]; rfl, ⟨rfl, rfl, rfl, Nat.le_refl _, fun _ _ => rfl⟩⟩
  · have HE : Hid (eqB xs ys = false) := by
      show eqB xs ys = false
      unfold eqB
      simp only [decide_eq_false_iff_not]
      intro h
      exact hn (by rw [← hx, ← hy, h])
    clear cx cy hx hy
    go_enter Trym.func12, Trym.ntmps12
    go_wp2
    all_goals first | (exfalso; omega) | (go_ret; exact ⟨by rw [HE.out]; rfl, Below.refl _ _⟩)
end Go.Proofs.Qxb6001239aMods

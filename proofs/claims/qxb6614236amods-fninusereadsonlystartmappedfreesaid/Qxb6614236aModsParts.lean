import Derived.Test.Qxb6614236aModsProg
import Derived.WalkKit
import Derived.ProofKit
import Derived.WalkSpells
import Derived.WalkLawsBesides
import Derived.Deep.QuietTactic
import Derived.BigQuiet
namespace Go.Proofs.Qxb6614236aMods
open Go.RowKit

/-- w' is w with new blocks at most. -/
def Out (w w' : World) : Prop := Grown w w' ∧ Below w.heap.size w w'
theorem Out.refl (w : World) : Out w w := ⟨Grown.refl _, Below.refl _ _⟩
theorem Out.alloc {W w : World} (h : Out W w) (c : Array Value) (t : TypeId) : Out W (w.alloc (.cells c t)) := ⟨h.1.alloc _ _, h.2.alloc h.1.2.2 _⟩
theorem Out.drewN {W w : World} (h : Out W w) (n : Nat) : Out W (w.drewN n) := ⟨h.1, ⟨h.2.os, h.2.tape, h.2.output, h.2.size, h.2.block⟩⟩
theorem Out.trans {a b c : World} (h : Out a b) (k : Out b c) : Out a c :=
  ⟨⟨World.keptBut_trans h.1.1 k.1.1, fun x => (k.1.2.1 x).trans (h.1.2.1 x), Nat.le_trans h.1.2.2 k.1.2.2⟩, h.2.trans (k.2.mono h.1.2.2)⟩
theorem Out.cell {w w' : World} (h : Out w w') {b o : Nat} {v : Value} (hc : w.cell? ⟨b, o, none⟩ = some v) : w'.cell? ⟨b, o, none⟩ = some v :=
  (h.2.cell (p := ⟨b, o, none⟩) (World.block_lt_of_cell? w _ hc)).trans hc

/-- What the process holds beyond 'st': never below nought. -/
def used (mp fr st : Int) : Int := if 0 ≤ mp - fr - st then mp - fr - st else 0

theorem ret_int {k : IntKind} {a b : Int} (h : a = b) : Ending.returned (.int k a) = .returned (.int k b) := by rw [h]

theorem inUse_any (b : Nat) (st : Int) (mp fr ob gl : Int) (w : World)
    (hc : w.cell? ⟨b, 0, none⟩ = some (.int .i64 st))
    (h0 : 0 ≤ st) (h1 : st ≤ 2305843009213693952) (h2 : 0 ≤ mp) (h3 : mp ≤ 2305843009213693952) (h4 : 0 ≤ fr) (h5 : fr ≤ 2305843009213693952) :
    Calls Trym.prog 9 #[.pointer (some ⟨b, 0, none⟩), .agg #[.int .i64 mp, .int .i64 fr, .int .i64 ob, .int .i64 gl]] w fun e w' =>
      e = .returned (.int .i64 (used mp fr st)) ∧ Out w w' := by
  have hb : b < w.heap.size := World.block_lt_of_cell? w _ hc
  go_enter Trym.func9, Trym.ntmps9
  go_wp2
  go_quiet (fail)
  go_wp2
  · go_ret
    exact ⟨ret_int (by unfold used; split <;> omega), ((Out.refl _).alloc _ _).drewN _⟩
  · go_ret
    exact ⟨ret_int (by unfold used; split <;> omega), ((Out.refl _).alloc _ _).drewN _⟩

theorem zzInUse_any (b : Nat) (st : Int) (mp fr ob gl : Int) (w : World)
    (hc : w.cell? ⟨b, 0, none⟩ = some (.int .i64 st))
    (h0 : 0 ≤ st) (h1 : st ≤ 2305843009213693952) (h2 : 0 ≤ mp) (h3 : mp ≤ 2305843009213693952) (h4 : 0 ≤ fr) (h5 : fr ≤ 2305843009213693952) :
    Calls Trym.prog 6 #[.pointer (some ⟨b, 0, none⟩), .agg #[.int .i64 mp, .int .i64 fr, .int .i64 ob, .int .i64 gl]] w fun e w' =>
      e = .returned (.int .i64 (used mp fr st)) ∧ Out w w' := by
  have hc1 : (w.alloc (.cells #[.int .i64 mp, .int .i64 fr, .int .i64 ob, .int .i64 gl] 26)).cell? ⟨b, 0, none⟩ = some (.int .i64 st) :=
    ((Out.refl w).alloc _ _).cell hc
  go_enter Trym.func6, Trym.ntmps6
  go_wp2_with fail
  refine (inUse_any b st mp fr ob gl _ hc1 h0 h1 h2 h3 h4 h5).mono ?_
  rintro e w' ⟨rfl, hg⟩
  go_wp2
  go_ret
  exact ⟨rfl, ((Out.refl w).alloc _ _).trans hg⟩

theorem newMem_any (a0 a1 a2 a3 : Int) (a4 : Bool) (w : World) :
    Calls Trym.prog 5 #[.int .i64 a0, .int .i64 a1, .int .i64 a2, .int .i64 a3, .bool a4] w fun e w' =>
      ∃ b, e = .returned (.pointer (some ⟨b, 0, none⟩)) ∧ w'.cell? ⟨b, 0, none⟩ = some (.int .i64 a0) ∧ Out w w' := by
  go_enter Trym.func5, Trym.ntmps5
  go_wp2
  go_ret
  exact ⟨w.heap.size, rfl, by simp [World.cell?_alloc_at], (Out.refl w).alloc _ _⟩

theorem newHeap_any (a0 a1 a2 a3 : Int) (w : World) :
    Calls Trym.prog 7 #[.int .i64 a0, .int .i64 a1, .int .i64 a2, .int .i64 a3] w fun e w' =>
      e = .returned (.agg #[.int .i64 a0, .int .i64 a1, .int .i64 a2, .int .i64 a3]) ∧ Out w w' := by
  go_enter Trym.func7, Trym.ntmps7
  go_wp2
  exact bodyPost_ret (v := .agg #[.int .i64 a0, .int .i64 a1, .int .i64 a2, .int .i64 a3]) (by simp [results, Trym.results7, go_sem]) rfl ⟨rfl, (Out.refl w).alloc _ _⟩

theorem char_yes (r e : Int) (w : World) (h0 : 0 ≤ r) (h1 : e ≤ r) (h2 : r = 0 ∨ r = e) :
    Calls Trym.prog 8 #[.int .i64 r, .int .i64 e] w fun e w' => e = .returned (.bool true) ∧ w' = w := by
  have ha : decide (r < 0) = false := by simp; omega
  have hb : decide (r < e) = false := by simp; omega
  by_cases hr : r = 0
  · have hd : (r == 0) = true := by simp [hr]
    clear hr h2
    go_enter Trym.func8, Trym.ntmps8
    go_wp2
    go_ret
    exact ⟨rfl, rfl⟩
  · have hd : (r == 0) = false := by simp [hr]
    have he : (r == e) = true := by simp; omega
    clear hr h2
    go_enter Trym.func8, Trym.ntmps8
    go_wp2
    go_ret
    exact ⟨rfl, rfl⟩
end Go.Proofs.Qxb6614236aMods

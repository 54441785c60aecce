import Derived.Test.Qxb6614428aModsProg
import Derived.WalkKit
import Derived.ProofKit
import Derived.WalkSpells
import Derived.WalkLawsBesides
import Derived.Laws.CopyOwn
namespace Go.Proofs.Qxb6614428aMods
open Go.RowKit
theorem Trym.info20 : (Trym.prog.info? 20).map (fun i => (i.zero, i.size, i.bytes)) = some (some .nilIface, 1, 16) := by kernel_rfl
theorem Trym.info2 : (Trym.prog.info? 2).map (fun i => (i.zero, i.size, i.bytes)) = some (some (.int .i64 0), 1, 8) := by kernel_rfl

theorem bytes_any (a : Option Addr) (len cap : Nat) (w : World) (hm : len ≤ maxLen) :
    Calls Trym.prog 11 #[.slice a len cap] w fun e w' => e = .returned (.bool (decide (len ≤ 1048576))) ∧ w' = w := by
  unfold maxLen at hm
  by_cases h : len ≤ 1048576
  · have hd : decide (len ≤ 1048576) = true := by simpa using h
    rw [hd]
    clear hd
    go_enter Trym.func11, Trym.ntmps11
    go_wp2
    go_ret
    exact ⟨rfl, rfl⟩
  · have hd : decide (len ≤ 1048576) = false := by simpa using h
    rw [hd]
    clear hd
    go_enter Trym.func11, Trym.ntmps11
    go_wp2
    go_ret
    exact ⟨rfl, rfl⟩

theorem len_nil (w : World) : Calls Trym.prog 12 #[.pointer none] w fun e w' => e = .returned (.int .i64 0) ∧ w' = w := by
  go_enter Trym.func12, Trym.ntmps12
  go_wp2
  go_ret
  exact ⟨rfl, rfl⟩

theorem len_any (b : Nat) (a : Option Addr) (n c : Nat) (w : World) (hc : w.cell? ⟨b, 0, none⟩ = some (.slice a n c)) : Calls Trym.prog 12 #[.pointer (some ⟨b, 0, none⟩)] w fun e w' => e = .returned (.int .i64 n) ∧ w' = w := by
  go_enter Trym.func12, Trym.ntmps12
  go_wp2
  go_ret
  exact ⟨rfl, rfl⟩

theorem at_any (b g i : Nat) (v : Value) (n c : Nat) (w : World) (hc : w.cell? ⟨b, 0, none⟩ = some (.slice (some ⟨g, 0, none⟩) n c)) (hi : i < n) (hv : w.cell? ⟨g, i, none⟩ = some (.iface 2 v)) :
    Calls Trym.prog 25 #[.pointer (some ⟨b, 0, none⟩), .int .i64 i] w fun e w' => e = .returned (.iface 2 v) ∧ w' = w := by
  go_enter Trym.func25, Trym.ntmps25
  go_wp2
  go_ret
  exact ⟨rfl, rfl⟩

theorem assert_any (z : Int) (w : World) : (Instr.typeAssert (.iface 2 (.int .i64 z)) 20 2 true).run Trym.prog w = .ok (.tuple #[.int .i64 z, .bool true]) w := by kernel_rfl

theorem atInt_any (b g i : Nat) (z : Int) (n c : Nat) (w : World) (hc : w.cell? ⟨b, 0, none⟩ = some (.slice (some ⟨g, 0, none⟩) n c)) (hi : i < n) (hv : w.cell? ⟨g, i, none⟩ = some (.iface 2 (.int .i64 z))) :
    Calls Trym.prog 14 #[.pointer (some ⟨b, 0, none⟩), .int .i64 i] w fun e w' => e = .returned (.tuple #[.int .i64 z, .bool true]) ∧ w' = w := by
  have hta := assert_any z
  go_enter Trym.func14, Trym.ntmps14
  go_wp2_with fail
  refine (at_any b g i (.int .i64 z) n c _ hc hi hv).mono ?_
  rintro e w' ⟨rfl, rfl⟩
  go_wp2
  go_ret2
  exact ⟨rfl, rfl⟩
/-- The cells of an array of k integers out of n, the rest still nil. -/
def cellsTo (zs : List Int) (n k : Nat) : List Value := (zs.take k).map (fun z => Value.iface 2 (.int .i64 z)) ++ List.replicate (n - k) .nilIface

theorem cellsTo_zero (zs : List Int) (n : Nat) : cellsTo zs n 0 = List.replicate n .nilIface := by simp [cellsTo]
theorem cellsTo_step (zs : List Int) (n k : Nat) (hn : zs.length = n) (hk : k < n) : (cellsTo zs n k).set k (.iface 2 (.int .i64 (zs.getD k 0))) = cellsTo zs n (k + 1) := by
  subst hn
  apply List.ext_getElem?
  intro j
  simp only [cellsTo, List.getElem?_set, List.getElem?_append, List.length_map, List.length_take, List.length_append, List.length_replicate, List.getElem?_map, List.getElem?_take, List.getElem?_replicate]
  by_cases hj : k = j
  · subst hj
    have h1 : k < min (k + 1) zs.length := by omega
    have h2 : k < min k zs.length + (zs.length - k) := by omega
    simp [h1, h2, hk]
  · rw [if_neg hj]
    by_cases h1 : j < k
    · have h2 : j < min k zs.length := by omega
      have h3 : j < min (k + 1) zs.length := by omega
      have h4 : j < k + 1 := by omega
      simp [h1, h2, h3, h4]
    · have h2 : ¬ j < min k zs.length := by omega
      have h3 : ¬ j < min (k + 1) zs.length := by omega
      simp only [h2, h3, if_false]
      have e1 : min k zs.length = k := by omega
      have e2 : min (k + 1) zs.length = k + 1 := by omega
      rw [e1, e2]
      by_cases h5 : j - k < zs.length - k
      · rw [if_pos h5, if_pos (by omega)]
      · rw [if_neg h5, if_neg (by omega)]
theorem cellsTo_at (zs : List Int) (n i : Nat) (hn : zs.length = n) (hi : i < n) : (cellsTo zs n n)[i]? = some (.iface 2 (.int .i64 (zs.getD i 0))) := by
  subst hn
  simp [cellsTo, hi, List.getD]

set_option maxHeartbeats 400000 in
theorem newArray_any (ao : Option Addr) (g n c : Nat) (hao : 0 < n → ao = some ⟨g, 0, none⟩) (zs : List Int) (hz : zs.length = n) (w : World) (hn : n ≤ 131072) (hcell : ∀ i, i < n → w.cell? ⟨g, i, none⟩ = some (.int .i64 (zs.getD i 0))) :
    Calls Trym.prog 13 #[.slice ao n c] w fun e w' => ∃ b G, e = .returned (.pointer (some ⟨b, 0, none⟩)) ∧ w'.cell? ⟨b, 0, none⟩ = some (.slice (some ⟨G, 0, none⟩) n n) ∧
      (∀ i, i < n → w'.cell? ⟨G, i, none⟩ = some (.iface 2 (.int .i64 (zs.getD i 0)))) ∧ Below w.heap.size w w' := by
  obtain ⟨i0, hi, hz0, hz1, hz2⟩ := info_parts Trym.info20
  go_enter Trym.func13, Trym.ntmps13
  go_wp2_with (at_make; refine wpList_make_full _ rfl _ _ 51 rfl w.heap.size 20 i0 .nilIface 1 Trym.underlying51 hi hz0 hz1 _ _ _ _ n rfl rfl (by omega) (by omega) ?b1 ?b2 ?b3 ?_)
  case b1 => rw [hz2]; omega
  case b2 => unfold maxLen; omega
  case b3 => exact Nat.le_refl _
  intro w1 hown hgrow
  have hown1 : w1.ownsRow w.heap.size 20 1 (.slice (some ⟨w.heap.size, 0, none⟩) n n) n (cellsTo zs n 0) := by
    rw [cellsTo_zero]
    rw [← toList_madeCells_one .nilIface n]; exact hown
  have hb1 : Below w.heap.size w w1 := (Below.refl _ _).grown hgrow (Nat.le_refl _) (fun k h => by cases h)
  clear hown hgrow
  go_wp2
  go_loopw [10] (fun i wr => ∃ k : Nat, k ≤ n ∧ i = .int .i64 k ∧ wr.ownsRow w.heap.size 20 1 (.slice (some ⟨w.heap.size, 0, none⟩) n n) n (cellsTo zs n k) ∧ Below w.heap.size w wr)
    (fun i _ => n - (intOf i).toNat)
  case atStart => exact ⟨0, Nat.zero_le _, rfl, hown1, hb1⟩
  case round =>
    obtain ⟨k, hk, rfl, hown, hb⟩ := hrel
    by_cases hlt : k < n
    · obtain rfl := hao (by omega)
      clear hao
      obtain ⟨z, hz'⟩ : ∃ z, zs.getD k 0 = z := ⟨_, rfl⟩
      have hc : wr.cell? ⟨g, k, none⟩ = some (.int .i64 z) := hz' ▸ (hb.cell (p := ⟨g, k, none⟩) (World.block_lt_of_cell? w _ (hcell k hlt))).trans (hcell k hlt)
      have hcw : wr.cell? ⟨w.heap.size, k, none⟩ = (cellsTo zs n k)[k]? := hown.cellAt k (by omega)
      have hlen : (cellsTo zs n k).length = n := by simpa using hown.1
      obtain ⟨u, hu⟩ : ∃ u, (cellsTo zs n k)[k]? = some u := ⟨_, List.getElem?_eq_getElem (by omega)⟩
      rw [hu] at hcw
      have hfz := hown.frozenAt k
      have R := hown.stored k (.iface 2 (.int .i64 (zs.getD k 0)))
      rw [cellsTo_step zs n k hz hlt, hz'] at R
      have R2 := hb.setCell (p := ⟨w.heap.size, k, none⟩) (Nat.le_refl _) (.iface 2 (.int .i64 z))
      have R' : Hid _ := And.intro R.1 R2
      clear R R2 hu hlen hown hb hz'
      go_wp2
      go_roundw
      case rel => exact ⟨k + 1, by omega, by go_num, R'.out.1, R'.out.2⟩
      case measure => simp [intOf]; omega
    · go_wp2
      go_ret
      obtain rfl : k = n := by omega
      have hgb : w.heap.size < wr.heap.size := (hown.lt _ rfl).2
      refine ⟨wr.heap.size, w.heap.size, rfl, by simp [World.cell?_alloc_at], fun i hi => ?_, hb.alloc hb.size _⟩
      rw [World.cell?_alloc_past _ _ _ hgb, hown.cellAt i (by omega)]
      exact cellsTo_at zs k i hz hi
end Go.Proofs.Qxb6614428aMods

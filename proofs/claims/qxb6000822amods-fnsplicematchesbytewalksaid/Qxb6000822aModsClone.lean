/-
  SEAT b6000822aM: the clones of a slice of bytes, a slice of ints; two slices of bytes compared.
-/
import Derived.Test.Qxb6000822aModsProg
import Derived.Test.Qxb6000822aModsMem
import Derived.WalkSpells
import Derived.WalkLawsBesides
import Derived.Deep.QuietTactic
import Derived.BigQuiet
namespace Go.Proofs.Qxb6000822aMods
open Go.RowKit
theorem Trym.info5 : (Trym.prog.info? 5).map (fun i => (i.zero, i.size, i.bytes)) = some (some (.int .u8 0), 1, 1) := by kernel_rfl
theorem Trym.info3 : (Trym.prog.info? 3).map (fun i => (i.zero, i.size, i.bytes)) = some (some (.int .i64 0), 1, 8) := by kernel_rfl
theorem Trym.info22 : (Trym.prog.info? 22).map (fun i => (i.zero, i.size, i.bytes)) = some (some (.slice none 0 0), 1, 24) := by kernel_rfl

set_option maxHeartbeats 400000 in
theorem cloneBytes_any (v : Value) (zs : List Int) (w : World) (hB : IsB .u8 w v zs) (hn : zs.length ≤ 1099511627776) :
    Calls Trym.prog 9 #[v] w fun e w' => ∃ v', e = .returned v' ∧ IsB .u8 w' v' zs ∧ Below w.heap.size w w' := by
  obtain ⟨ao, b, off, cap, rfl, hlc, hcm, hnil, hao, hcell⟩ := hB
  obtain ⟨n, hzn⟩ : ∃ n, zs.length = n := ⟨_, rfl⟩
  have HZ : Hid (zs.length = n) := hzn
  rw [hzn] at hn hlc hao hcell ⊢
  clear hzn
  cases ao with
  | none =>
    have h0 : cap = 0 := hnil rfl
    obtain rfl : n = 0 := by omega
    obtain rfl := List.eq_nil_of_length_eq_zero HZ.out
    have heq := fun wx => Lib.run_eql_slice_nil (P := Trym.prog) wx 22 5 none 0 cap 0 0 Trym.underlying22
    subst h0
    clear hnil hao hcell HZ
    go_enter Trym.func9, Trym.ntmps9
    go_wp2
    go_ret
    exact ⟨_, rfl, IsB.nil _ _, Below.refl _ _⟩
  | some x =>
    have heq := fun wx => Lib.run_eql_slice_nil (P := Trym.prog) wx 22 5 (some x) n cap 0 0 Trym.underlying22
    obtain ⟨i0, hi, hz0, hz1, hz2⟩ := info_parts Trym.info5
    clear hnil
    go_enter Trym.func9, Trym.ntmps9
    go_wp2_with (at_make; refine wpList_make_full _ rfl _ _ 22 rfl w.heap.size 5 i0 (.int .u8 0) 1 Trym.underlying22 hi hz0 hz1 _ _ _ _ n rfl rfl (by omega) (by omega) ?b1 ?b2 ?b3 ?_)
    case b1 => rw [hz2]; omega
    case b2 => unfold maxLen; omega
    case b3 => exact Nat.le_refl _
    intro w1 hown hgrow
    have hown1 : w1.ownsRow w.heap.size 5 1 (.slice (some ⟨w.heap.size, 0, none⟩) n n) n ((zs.take 0).map (Value.int .u8) ++ List.replicate (n - 0) (.int .u8 0)) := by
      have e : (zs.take 0).map (Value.int .u8) ++ List.replicate (n - 0) (.int .u8 0) = (madeCells #[Value.int .u8 0] n).toList := by rw [toList_madeCells_one]; simp
      rw [e]; exact hown
    have hb1 : Below w.heap.size w w1 := (Below.refl _ _).grown hgrow (Nat.le_refl _) (fun k h => by cases h)
    clear hown hgrow heq
    go_wp2
    go_loopw [4] (fun i wr => ∃ k : Nat, k ≤ n ∧ i = .int .i64 k ∧ wr.ownsRow w.heap.size 5 1 (.slice (some ⟨w.heap.size, 0, none⟩) n n) n ((zs.take k).map (Value.int .u8) ++ List.replicate (n - k) (.int .u8 0)) ∧ Below w.heap.size w wr)
      (fun i _ => n - (intOf i).toNat)
    case atStart => exact ⟨0, Nat.zero_le _, rfl, hown1, hb1⟩
    case round =>
      obtain ⟨k, hk, rfl, hown, hb⟩ := hrel
      by_cases hlt : k < n
      · obtain rfl : x = ⟨b, off, none⟩ := Option.some.inj (hao (by omega))
        obtain ⟨z, hz'⟩ : ∃ z, zs.getD k 0 = z := ⟨_, rfl⟩
        have hc : wr.cell? ⟨b, off + k, none⟩ = some (.int .u8 z) := hz' ▸ (hb.cell (p := ⟨b, off + k, none⟩) (World.block_lt_of_cell? w _ (hcell k hlt))).trans (hcell k hlt)
        obtain ⟨u, hu⟩ : ∃ u, ((zs.take k).map (Value.int .u8) ++ List.replicate (n - k) (.int .u8 0))[k]? = some u := ⟨_, List.getElem?_eq_getElem (by have := hown.1; omega)⟩
        have hcw : wr.cell? ⟨w.heap.size, k, none⟩ = some u := (hown.cellAt k (by omega)).trans hu
        have hfz := hown.frozenAt k
        have R := hown.stored k (.int .u8 z)
        rw [set_fill _ _ _ n k (by simp; have := HZ.out; omega) hlt, ← hz', take_map_snoc _ zs k (by have := HZ.out; omega), hz'] at R
        have R2 := hb.setCell (p := ⟨w.heap.size, k, none⟩) (Nat.le_refl _) (.int .u8 z)
        have R' : Hid _ := And.intro R.1 R2
        clear R R2 hu hown hb hz' hown1 hb1 hao hcell
        go_wp2
        go_roundw
        case rel => exact ⟨k + 1, by omega, by go_num, R'.out.1, R'.out.2⟩
        case measure => simp [intOf]; omega
      · obtain rfl : k = n := by omega
        have R : Hid (IsB .u8 wr (.slice (some ⟨w.heap.size, 0, none⟩) k k) zs) := isB_of_own (by simpa [List.take_of_length_le (Nat.le_of_eq HZ.out)] using hown) HZ.out
        have HB : Hid _ := hb
        clear hown hb hown1 hb1 hao hcell
        go_wp2
        go_ret
        exact ⟨_, rfl, R.out, HB.out⟩

set_option maxHeartbeats 400000 in
theorem cloneInts_any (v : Value) (zs : List Int) (w : World) (hB : IsB .i64 w v zs) (hn : zs.length ≤ 1099511627776) :
    Calls Trym.prog 10 #[v] w fun e w' => ∃ v', e = .returned v' ∧ IsB .i64 w' v' zs ∧ Below w.heap.size w w' := by
  obtain ⟨ao, b, off, cap, rfl, hlc, hcm, hnil, hao, hcell⟩ := hB
  obtain ⟨n, hzn⟩ : ∃ n, zs.length = n := ⟨_, rfl⟩
  have HZ : Hid (zs.length = n) := hzn
  rw [hzn] at hn hlc hao hcell ⊢
  clear hzn
  cases ao with
  | none =>
    have h0 : cap = 0 := hnil rfl
    obtain rfl : n = 0 := by omega
    obtain rfl := List.eq_nil_of_length_eq_zero HZ.out
    have heq := fun wx => Lib.run_eql_slice_nil (P := Trym.prog) wx 23 3 none 0 cap 0 0 Trym.underlying23
    subst h0
    clear hnil hao hcell HZ
    go_enter Trym.func10, Trym.ntmps10
    go_wp2
    go_ret
    exact ⟨_, rfl, IsB.nil _ _, Below.refl _ _⟩
  | some x =>
    have heq := fun wx => Lib.run_eql_slice_nil (P := Trym.prog) wx 23 3 (some x) n cap 0 0 Trym.underlying23
    obtain ⟨i0, hi, hz0, hz1, hz2⟩ := info_parts Trym.info3
    clear hnil
    go_enter Trym.func10, Trym.ntmps10
    go_wp2_with (at_make; refine wpList_make_full _ rfl _ _ 23 rfl w.heap.size 3 i0 (.int .i64 0) 1 Trym.underlying23 hi hz0 hz1 _ _ _ _ n rfl rfl (by omega) (by omega) ?b1 ?b2 ?b3 ?_)
    case b1 => rw [hz2]; omega
    case b2 => unfold maxLen; omega
    case b3 => exact Nat.le_refl _
    intro w1 hown hgrow
    have hown1 : w1.ownsRow w.heap.size 3 1 (.slice (some ⟨w.heap.size, 0, none⟩) n n) n ((zs.take 0).map (Value.int .i64) ++ List.replicate (n - 0) (.int .i64 0)) := by
      have e : (zs.take 0).map (Value.int .i64) ++ List.replicate (n - 0) (.int .i64 0) = (madeCells #[Value.int .i64 0] n).toList := by rw [toList_madeCells_one]; simp
      rw [e]; exact hown
    have hb1 : Below w.heap.size w w1 := (Below.refl _ _).grown hgrow (Nat.le_refl _) (fun k h => by cases h)
    clear hown hgrow heq
    go_wp2
    go_loopw [4] (fun i wr => ∃ k : Nat, k ≤ n ∧ i = .int .i64 k ∧ wr.ownsRow w.heap.size 3 1 (.slice (some ⟨w.heap.size, 0, none⟩) n n) n ((zs.take k).map (Value.int .i64) ++ List.replicate (n - k) (.int .i64 0)) ∧ Below w.heap.size w wr)
      (fun i _ => n - (intOf i).toNat)
    case atStart => exact ⟨0, Nat.zero_le _, rfl, hown1, hb1⟩
    case round =>
      obtain ⟨k, hk, rfl, hown, hb⟩ := hrel
      by_cases hlt : k < n
      · obtain rfl : x = ⟨b, off, none⟩ := Option.some.inj (hao (by omega))
        obtain ⟨z, hz'⟩ : ∃ z, zs.getD k 0 = z := ⟨_, rfl⟩
        have hc : wr.cell? ⟨b, off + k, none⟩ = some (.int .i64 z) := hz' ▸ (hb.cell (p := ⟨b, off + k, none⟩) (World.block_lt_of_cell? w _ (hcell k hlt))).trans (hcell k hlt)
        obtain ⟨u, hu⟩ : ∃ u, ((zs.take k).map (Value.int .i64) ++ List.replicate (n - k) (.int .i64 0))[k]? = some u := ⟨_, List.getElem?_eq_getElem (by have := hown.1; omega)⟩
        have hcw : wr.cell? ⟨w.heap.size, k, none⟩ = some u := (hown.cellAt k (by omega)).trans hu
        have hfz := hown.frozenAt k
        have R := hown.stored k (.int .i64 z)
        rw [set_fill _ _ _ n k (by simp; have := HZ.out; omega) hlt, ← hz', take_map_snoc _ zs k (by have := HZ.out; omega), hz'] at R
        have R2 := hb.setCell (p := ⟨w.heap.size, k, none⟩) (Nat.le_refl _) (.int .i64 z)
        have R' : Hid _ := And.intro R.1 R2
        clear R R2 hu hown hb hz' hown1 hb1 hao hcell
        go_wp2
        go_roundw
        case rel => exact ⟨k + 1, by omega, by go_num, R'.out.1, R'.out.2⟩
        case measure => simp [intOf]; omega
      · obtain rfl : k = n := by omega
        have R : Hid (IsB .i64 wr (.slice (some ⟨w.heap.size, 0, none⟩) k k) zs) := isB_of_own (by simpa [List.take_of_length_le (Nat.le_of_eq HZ.out)] using hown) HZ.out
        have HB : Hid _ := hb
        clear hown hb hown1 hb1 hao hcell
        go_wp2
        go_ret
        exact ⟨_, rfl, R.out, HB.out⟩

set_option maxHeartbeats 400000 in
theorem same_yes (v u : Value) (zs : List Int) (w : World) (hv : IsB .u8 w v zs) (hu : IsB .u8 w u zs) :
    Calls Trym.prog 14 #[v, u] w fun e w' => e = .returned (.bool true) ∧ Below w.heap.size w w' := by
  obtain ⟨ao, b, off, cap, rfl, hlc, hcm, hnil, hao, hcell⟩ := hv
  obtain ⟨ao', b', off', cap', rfl, hlc', hcm', hnil', hao', hcell'⟩ := hu
  obtain ⟨n, hzn⟩ : ∃ n, zs.length = n := ⟨_, rfl⟩
  rw [hzn] at hlc hao hcell hlc' hao' hcell' ⊢
  clear hzn
  unfold maxLen at hcm hcm'
  clear hnil hnil'
  go_enter Trym.func14, Trym.ntmps14
  go_wp2
  go_loopw [5] (fun i wr => ∃ k m : Nat, k ≤ n ∧ i = .int .i64 k ∧ wr = w.drewN m) (fun i _ => n - (intOf i).toNat)
  case atStart => exact ⟨0, 0, Nat.zero_le _, rfl, rfl⟩
  case round =>
    obtain ⟨k, m, hk, rfl, rfl⟩ := hrel
    by_cases hlt : k < n
    · obtain rfl := hao (by omega)
      obtain rfl := hao' (by omega)
      obtain ⟨z, hz'⟩ : ∃ z, zs.getD k 0 = z := ⟨_, rfl⟩
      have hc := hcell k hlt
      have hc' := hcell' k hlt
      rw [hz'] at hc hc'
      have h1 : (0 : Int) ≤ (k : Int) := by omega
      have h2 : (k : Int) < (n : Int) := by omega
      clear hz' hao hao' hcell hcell'
      go_wp2
      go_quiet (fail)
      go_wp2
      go_roundw
      case rel => exact ⟨k + 1, _, by omega, by go_num, rfl⟩
      case measure => simp [intOf]; omega
    · clear hao hao' hcell hcell'
      go_wp2
      go_ret
      exact ⟨rfl, below_drewN (Below.refl _ _) _⟩

end Go.Proofs.Qxb6000822aMods

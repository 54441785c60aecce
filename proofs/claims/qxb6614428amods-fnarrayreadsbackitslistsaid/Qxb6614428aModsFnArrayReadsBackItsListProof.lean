/-
  PROOF OF 'Rows.FnArrayReadsBackItsListSaid': the shell's frame, the walk filled in over the contracts of Qxb6614428aModsParts.
-/
import Derived.Test.Qxb6614428aModsRows
import Derived.Test.Qxb6614428aModsParts
import Derived.WalkKit
import Derived.ProofKit
import Derived.OpenShut
import Derived.ShutString
import Derived.ChangeOld
import Derived.Below
namespace Go.Proofs.Qxb6614428aMods.fnArrayReadsBackItsList
open Go.ChangeShapes Go.WideShapes Go.ChangeAt Go.RowKit
open Go.ChangeMaps (open_string shut_string)
set_option linter.unusedVariables false

theorem own : ownKnob Trym.prog.godebug = none := by kernel_rfl
theorem laidOut : laidOutB Trym.prog = true := by kernel_rfl

/-- WHAT THE WALK IS TOLD OF A SLICE OF INTEGERS THAT CAME IN: it is nil; or it leads to a row of 'cap' cells, the numbers 'zs' (the first 'len' are its elements, the rest its spare room), each fitting its kind. -/
def IsRow (k : IntKind) (w : World) (a : Option Addr) (len cap : Nat) (zs : List Int) : Prop :=
  (a = none ∧ len = 0 ∧ cap = 0 ∧ zs = []) ∨
  ∃ x, a = some x ∧ len ≤ cap ∧ cap ≤ maxLen ∧ zs.length = cap ∧ (∀ i, i < zs.length → w.cell? (x.add i) = some (.int k (zs.getD i 0))) ∧ ∀ n ∈ zs, (Lit.int k n).wf = true

theorem own_heap {w : World} {base : Nat} {e : TypeId} {g n : Nat} {xs : List Value} (h : w.ownsRow base e 1 (.slice (some ⟨g, 0, none⟩) n n) n xs) :
    w.heap[g]? = some (.cells xs.toArray e (0, 0)) := by
  rcases h.2 with ⟨h', _⟩ | ⟨g', cap', cur, h', _, hg, _, _, hs, ht⟩
  · simp at h'
  · simp only [Value.slice.injEq, Option.some.injEq, Addr.mk.injEq, and_true, true_and] at h'
    obtain ⟨rfl, rfl⟩ := h'
    rw [List.take_of_length_le (by simpa using Nat.le_of_eq hs)] at ht
    rw [hg, ← ht]

theorem copy_whole (w w2 : World) (x : Addr) (len cap : Nat) (zs : List Int) (hl : len ≤ cap) (hz : zs.length = cap) (hcell : ∀ i, i < zs.length → w.cell? (x.add i) = some (.int .i64 (zs.getD i 0)))
    (hown : w2.ownsRow w.heap.size 2 1 (.slice (some ⟨w.heap.size, 0, none⟩) len len) len (madeCells #[Value.int .i64 0] len).toList) (hgrow : w.grownBy w2 none) :
    ∃ w3, (Builtin.copy_ #[32, 32] 3 #[.slice (some ⟨w.heap.size, 0, none⟩) len len, .slice (some x) len cap]).run Trym.prog w2 = .ok (.int .i64 len) w3 ∧
      (∀ i, i < len → w3.cell? ⟨w.heap.size, i, none⟩ = some (.int .i64 (zs.getD i 0))) ∧ Below w.heap.size w w3 ∧ w.heap.size < w3.heap.size := by
  have hg := own_heap hown
  have hsz := Array.getElem?_eq_some_iff.1 hg
  have hb : Below w.heap.size w w2 := (Below.refl _ _).grown hgrow (Nat.le_refl _) (fun k h => by cases h)
  have hlen : ((zs.take len).map (Value.int .i64)).length = len := by simp; omega
  have hat : ∀ j, j < len → ((zs.take len).map (Value.int .i64))[j]? = some (.int .i64 (zs.getD j 0)) := by
    intro j hj
    have : j < zs.length := by omega
    simp [hj, this]
  have hr := run_copy_row (P := Trym.prog) w2 32 32 3 2 w.heap.size 0 len len x len cap _ 2 ((zs.take len).map (Value.int .i64)) Trym.underlying32 (by kernel_rfl) hg (by simp; omega)
    (by
      intro j v hv
      have hj : j < len := by have := (List.getElem?_eq_some_iff.1 hv).1; omega
      rw [hat j hj] at hv
      have hc := hcell j (by omega)
      have := hb.cell (p := x.add j) (World.block_lt_of_cell? w _ hc)
      rw [this, hc, ← hv])
    (by simp [size_madeCells]; omega) (ints_oneCell _ _)
  rw [hlen] at hr
  have e : (List.take 0 (madeCells #[Value.int .i64 0] len).toList.toArray.toList ++ (zs.take len).map (Value.int .i64) ++ List.drop (0 + len) (madeCells #[Value.int .i64 0] len).toList.toArray.toList) = (zs.take len).map (Value.int .i64) := by
    rw [List.drop_eq_nil_of_le (by simp [size_madeCells])]
    simp
  rw [e] at hr
  refine ⟨_, hr, fun i hi => ?_, below_setRow hb (Nat.le_refl _) _, ?_⟩
  · rw [cell_of_row _ _ i _ 2 (0, 0) (setRow_heap w2 _ _ _ 2 _ hg)]
    simpa using hat i hi
  · obtain ⟨h, _⟩ := hsz
    simpa [World.setRow] using h

set_option maxHeartbeats 400000 in
theorem walk_nil (w : World) :
    Calls Trym.prog 4 #[.slice none 0 0] w fun e w' => e = .returned (.bool true) ∧ Below w.heap.size w w' := by
  have hne := fun wx => run_neq_slice_nil_any (P := Trym.prog) wx 32 2 none 0 0 0 0 Trym.underlying32
  go_enter Trym.func4, Trym.ntmps4
  go_wp2_with fail
  refine (bytes_any none 0 0 _ (by decide)).mono ?_
  rintro e w1 ⟨rfl, rfl⟩
  go_wp2_with fail
  refine (len_nil _).mono ?_
  rintro e w1 ⟨rfl, rfl⟩
  go_wp2_with fail
  refine (newArray_any none 0 0 0 (by omega) [] rfl _ (by omega) (by omega)).mono ?_
  rintro e w1 ⟨b, G, rfl, hc, hcs, hb⟩
  go_wp2_with fail
  refine (len_any b _ 0 0 _ hc).mono ?_
  rintro e w1 ⟨rfl, rfl⟩
  go_wp2
  go_loop [7] (fun i => i = .int .i64 0) (fun _ => 0)
  case atStart => rfl
  case round =>
    subst hrel
    go_wp2
    go_ret
    exact ⟨rfl, hb⟩

set_option maxHeartbeats 800000 in
theorem walk_some (x : Addr) (len cap : Nat) (zs : List Int) (w : World) (hl : len ≤ cap) (hm : cap ≤ maxLen) (hz : zs.length = cap) (hcell : ∀ i, i < zs.length → w.cell? (x.add i) = some (.int .i64 (zs.getD i 0))) :
    Calls Trym.prog 4 #[.slice (some x) len cap] w fun e w' => e = .returned (.bool true) ∧ Below w.heap.size w w' := by
  have hm' : len ≤ maxLen := by omega
  by_cases h1 : len ≤ 1048576
  · by_cases h2 : len ≤ 131072
    · have hne := fun wx => run_neq_slice_nil_any (P := Trym.prog) wx 32 2 (some x) len cap 0 0 Trym.underlying32
      have hd : decide (len ≤ 1048576) = true := by simpa using h1
      obtain ⟨i0, hi, hz0, hz1, hz2⟩ := info_parts Trym.info2
      go_enter Trym.func4, Trym.ntmps4
      go_wp2_with fail
      refine (bytes_any _ len cap _ hm').mono ?_
      rintro e w1 ⟨rfl, rfl⟩
      rw [hd]
      go_wp2_with (at_make; refine wpList_make_full _ rfl _ _ 32 rfl w1.heap.size 2 i0 (.int .i64 0) 1 Trym.underlying32 hi hz0 hz1 _ _ _ _ len rfl rfl (by omega) (by omega) ?b1 ?b2 ?b3 ?_)
      case b1 => rw [hz2]; omega
      case b2 => exact hm'
      case b3 => exact Nat.le_refl _
      intro w2 hown hgrow
      obtain ⟨w3, hrun, hc3, hb3, hs3⟩ := copy_whole w1 w2 x len cap zs hl hz hcell hown hgrow
      clear hown hgrow hcell
      go_wp2_with fail
      refine (len_nil _).mono ?_
      rintro e w4 ⟨rfl, rfl⟩
      clear hrun
      go_wp2_with fail
      refine (newArray_any _ w1.heap.size len len (fun _ => rfl) (zs.take len) (by simp; omega) _ h2 ?_).mono ?_
      · intro i hi
        rw [hc3 i hi]
        simp [List.getD, hi]
      rintro e w5 ⟨b, G, rfl, hc5, hcs5, hb5⟩
      go_wp2_with fail
      refine (len_any b _ len len _ hc5).mono ?_
      rintro e w6 ⟨rfl, rfl⟩
      have hbel : Below w1.heap.size w1 w6 := hb3.trans (hb5.mono hb3.size)
      have hcc : ∀ i, i < len → w6.cell? ⟨w1.heap.size, i, none⟩ = some (.int .i64 (zs.getD i 0)) := fun i hi => (hb5.cell (p := ⟨w1.heap.size, i, none⟩) hs3).trans (hc3 i hi)
      have hcd : ∀ i, i < len → w6.cell? ⟨G, i, none⟩ = some (.iface 2 (.int .i64 (zs.getD i 0))) := by
        intro i hi
        rw [hcs5 i hi]
        simp [List.getD, hi]
      have HB : Hid (Below w1.heap.size w1 w6) := hbel
      have HC : Hid _ := And.intro hcc hcd
      clear hbel hcc hcd hcs5 hb5 hb3 hc3 hs3
      go_wp2
      go_loop [7] (fun i => ∃ k : Nat, k ≤ len ∧ i = .int .i64 k) (fun i => len - (intOf i).toNat)
      case atStart => exact ⟨0, Nat.zero_le _, rfl⟩
      case round =>
        obtain ⟨k, hk, rfl⟩ := hrel
        by_cases hlt : k < len
        · obtain ⟨z, hz'⟩ : ∃ z, zs.getD k 0 = z := ⟨_, rfl⟩
          have hx := HC.out.1 k hlt
          have hy := HC.out.2 k hlt
          rw [hz'] at hx hy
          clear hz'
          go_wp2_with fail
          refine (atInt_any b G k z len len _ hc5 hlt hy).mono ?_
          rintro e w7 ⟨rfl, rfl⟩
          go_wp2
          go_round
          case rel => exact ⟨k + 1, by omega, by go_num⟩
          case measure => simp [intOf]; omega
        · go_wp2
          go_ret
          exact ⟨rfl, HB.out⟩
    · have hd : decide (len ≤ 1048576) = true := by simpa using h1
      unfold maxLen at hm'
      go_enter Trym.func4, Trym.ntmps4
      go_wp2_with fail
      refine (bytes_any _ len cap _ hm').mono ?_
      rintro e w1 ⟨rfl, rfl⟩
      rw [hd]
      go_wp2
      go_ret
      exact ⟨rfl, Below.refl _ _⟩
  · have hd : decide (len ≤ 1048576) = false := by simpa using h1
    go_enter Trym.func4, Trym.ntmps4
    go_wp2_with fail
    refine (bytes_any _ len cap _ hm').mono ?_
    rintro e w1 ⟨rfl, rfl⟩
    rw [hd]
    go_wp2
    go_ret
    exact ⟨rfl, Below.refl _ _⟩

/-! ### STEP 1: THE WALK: the Go text returns true, AND WRITES NOTHING THAT WAS THERE: 'Below w.heap.size w w'' (Derived/Below.lean: '.refl', '.alloc', '.drew', '.setCell' at a new block, '.trans'). Open each 'IsRow' by 'rcases' AHEAD of 'go_enter'; part every test ahead of the walk. -/
theorem walk (a0 : Option Addr) (len0 cap0 : Nat) (z0 : List Int) (w : World) (w0 : IsRow .i64 w a0 len0 cap0 z0) :
    Calls Trym.prog 4 #[.slice a0 len0 cap0] w fun e w' => e = .returned (.bool true) ∧ Below w.heap.size w w' := by
  rcases w0 with ⟨rfl, rfl, rfl, rfl⟩ | ⟨x, rfl, hl, hm, hz, hcell, hwz⟩
  · exact walk_nil w
  · exact walk_some x len0 cap0 z0 w hl hm hz hcell

/-! ### THE ROW's STEP: WRITTEN OUT: LEAVE IT -/
set_option maxRecDepth 100000 in
theorem lifted (os : Os) (started : os.Started) (H : Type) (enc : TypeId × Value → H) :
    ReturnsInHanded {} Trym.checked os 4 .any (Rows.fnArrayReadsBackItsListSpec.pre6 enc Trym.prog Trym.f4 Rows.fnArrayReadsBackItsListRow.domain false) (Rows.fnArrayReadsBackItsListSpec.post enc Trym.prog Trym.f4 false true false false) := by
  refine returnsInHanded_of_change (C := Trym.checked) own started (by kernel_rfl) Trym.func4
    (ChangeSpec.witness6 (enc := enc) (C := Trym.checked) false ⟨#[], #[.slice none 0 0], []⟩ 8 (by kernel_rfl) (by kernel_rfl) (by kernel_rfl) (by kernel_rfl)) ?_
  intro W base args ds gs before hval0 hW hcnd _
  have hval : ∀ (j : Nat) t v, Trym.f4.params[j]? = some t → args[j]? = some v → Value.okWide Trym.prog W .any base t v := hval0
  have hW' := hW
  obtain ⟨p, q, hA0, hV, rfl, hfz, hnd⟩ := hW
  have hA : DataW.TrodAll enc Trym.prog W 0 (fun _ => true) true Trym.f4.params.toList args.toList ds p := hA0
  rw [Trym.params4] at hA hval
  obtain ⟨v0, vs0, d0, ds0, p0, q0, hargs, rfl, rfl, h0, r0⟩ := trodAll_cons hA
  obtain ⟨rfl, rfl, rfl⟩ := trodAll_nil r0
  obtain rfl : args = #[v0] := by cases args; simp_all
  obtain ⟨rfl, rfl⟩ := trodVars_none hV
  obtain ⟨a0, len0, cap0, rfl⟩ := okWide_slice Trym.underlying32 (hval 0 32 v0 rfl rfl)
  have k0 := h0
  have lt0 : ∀ x ∈ p0, x.block < W.heap.size := by obtain ⟨m, hm⟩ := k0; exact DataW.trod_lt m _ _ _ hm
  obtain ⟨z0, w0⟩ : ∃ zs, IsRow .i64 W a0 len0 cap0 zs := by
    obtain ⟨fuel, hf⟩ := h0
    rcases open_ints Trym.underlying32 Trym.underlying2 (by kernel_rfl) hf with ⟨hcs, _⟩ | ⟨x, l, c, zs, hcs, _, hl, hm, hz, _, hcell, hwz⟩
    · simp [Value.cells] at hcs
      obtain ⟨rfl, rfl, rfl⟩ := hcs
      exact ⟨[], .inl ⟨rfl, rfl, rfl, rfl⟩⟩
    · simp [Value.cells] at hcs
      obtain ⟨rfl, rfl, rfl⟩ := hcs
      exact ⟨zs, .inr ⟨_, rfl, hl, hm, by simpa using hz, hcell, hwz⟩⟩
  clear hA0 hval0
  refine (walk a0 len0 cap0 z0 W w0).mono fun e W' ⟨he, bel⟩ => ?_
  subst he
  exact ⟨_, rfl, _, _, _, [], _, [], hW', trodAll_mk1 (shut_bool Trym.underlying4 _), (trodAll_cons_mk (Below.trod laidOut (by kernel_rfl) (of_decide_eq_true (by kernel_rfl)) k0 bel lt0) trodAll_mk0), rfl, bel.frame _, fun h => by cases h⟩

theorem over : Rows.fnArrayReadsBackItsListRow.holds Trym.pinned (OpenSpec.ofChange Rows.fnArrayReadsBackItsListSpec) :=
  OpenClaim.holds_of_wide 4 Trym.f4 rfl rfl rfl rfl rfl rfl rfl ⟨rfl, rfl, rfl, rfl, rfl⟩ rfl rfl rfl rfl rfl (by kernel_rfl) Trym.func4 (by kernel_rfl)
    (of_decide_eq_true (by kernel_rfl)) (by unfold Func.isWrapper; first | (rw [if_pos (by decide +kernel)]; kernel_rfl) | (rw [if_neg (by decide +kernel)]; exact ⟨rfl, rfl⟩))
    (fun os started H enc _ => lifted os started H enc)

/-- ████ THE STATEMENT ████ -/
theorem proved : Rows.FnArrayReadsBackItsListSaid := over
#print axioms proved
end Go.Proofs.Qxb6614428aMods.fnArrayReadsBackItsList

/-
  PROOF OF 'Rows.FnInUseGrowsWithMappingSaid': the shell's frame, the walk filled in over the contracts of Qxb6614236aModsParts.
-/
import Derived.Test.Qxb6614236aModsRows
import Derived.Test.Qxb6614236aModsParts
import Derived.WalkKit
import Derived.ProofKit
import Derived.OpenShut
import Derived.ShutString
namespace Go.Proofs.Qxb6614236aMods.fnInUseGrowsWithMapping
open Go.ChangeShapes Go.WideShapes Go.ChangeAt Go.RowKit
open Go.ChangeMaps (open_string shut_string)
set_option linter.unusedVariables false      -- a walk need not use every 'w<i>' (that an integer argument fits its kind)

theorem own : ownKnob Trym.prog.godebug = none := by kernel_rfl

theorem used_pos {m f s : Int} (h : 0 ≤ m - f - s) : used m f s = m - f - s := by unfold used; rw [if_pos h]
theorem used_neg {m f s : Int} (h : ¬ 0 ≤ m - f - s) : used m f s = 0 := by unfold used; rw [if_neg h]
theorem used_char (m f s : Int) : 0 ≤ used m f s ∧ m - f - s ≤ used m f s ∧ (used m f s = 0 ∨ used m f s = m - f - s) := by unfold used; split <;> omega
theorem walk_in (a0 : Int) (a1 : Int) (a2 : Int) (a3 : Int) (a4 : Int) (a5 : Int) (w : World) (h0 : 0 ≤ a0) (h1 : a0 ≤ 1152921504606846976) (h2 : 0 ≤ a1) (h3 : a1 ≤ 1152921504606846976) (h4 : 0 ≤ a2) (h5 : a2 ≤ 1152921504606846976) (h6 : 0 ≤ a5) (h7 : a5 ≤ 1152921504606846976) :
    Calls Trym.prog 3 #[.int .i64 a0, .int .i64 a1, .int .i64 a2, .int .i64 a3, .int .i64 a4, .int .i64 a5] w fun e w' => e = .returned (.bool true) ∧ Grown w w' := by
    go_enter Trym.func3, Trym.ntmps3
    go_wp2_with fail
    refine (newMem_any a0 0 0 0 false _).mono ?_
    rintro e w1 ⟨b, rfl, hc1, ho1⟩
    go_wp2_with fail
    refine (newHeap_any a1 a2 a3 a4 _).mono ?_
    rintro e w2 ⟨rfl, ho2⟩
    go_wp2_with fail
    refine (zzInUse_any b a0 a1 a2 a3 a4 _ (ho2.cell hc1) h0 (by omega) h2 (by omega) h4 (by omega)).mono ?_
    rintro e w3 ⟨rfl, ho3⟩
    go_wp2_with fail
    refine (newHeap_any (a1 + a5) a2 a3 a4 _).mono ?_
    rintro e w4 ⟨rfl, ho4⟩
    go_wp2_with fail
    refine (zzInUse_any b a0 (a1 + a5) a2 a3 a4 _ (ho4.cell (ho3.cell (ho2.cell hc1))) h0 (by omega) (by omega) (by omega) h4 (by omega)).mono ?_
    rintro e w5 ⟨rfl, ho5⟩
    go_wp2_with fail
    have hu := used_char a1 a2 a0
    refine (char_yes (used a1 a2 a0) (a1 - a2 - a0) _ hu.1 hu.2.1 hu.2.2).mono ?_
    have hv := used_char (a1 + a5) a2 a0
    have HG : Hid (Grown w w5) := ((((ho1.trans ho2).trans ho3).trans ho4).trans ho5).1
    clear hu ho1 ho2 ho3 ho4 ho5 hc1
    rintro e w6 ⟨rfl, rfl⟩
    by_cases he : 0 ≤ a1 - a2 - a0
    · have e1 : used a1 a2 a0 = a1 - a2 - a0 := used_pos he
      have e2 : used (a1 + a5) a2 a0 = a1 + a5 - a2 - a0 := used_pos (by omega)
      clear hv
      rw [e1, e2]
      clear e1 e2
      go_wp2
      go_ret
      exact ⟨by simp; omega, HG.out⟩
    · have hb : used (a1 + a5) a2 a0 ≤ a5 := by unfold used; split <;> omega
      have hw : 0 ≤ used a1 a2 a0 ∧ used a1 a2 a0 ≤ 0 := by unfold used; split <;> omega
      have hx : decide (used (a1 + a5) a2 a0 ≤ a5) = true := by simpa using hb
      have HV : Hid _ := hv
      clear hv
      go_wp2_with fail
      refine (char_yes (used (a1 + a5) a2 a0) (a1 - a2 - a0 + a5) _ ?_ ?_ ?_).mono ?_
      · exact HV.out.1
      · have := HV.out.2.1; omega
      · have := HV.out.2.2; omega
      · rintro e w6 ⟨rfl, rfl⟩
        go_wp2
        go_ret
        exact ⟨rfl, HG.out⟩

/-! ### STEP 1: THE WALK: the Go text returns true. 'Grown w w'': the world has at most new blocks (Derived/RowKit3.lean). Part the cases AHEAD of 'go_enter' where a test parts the walk; take each callee by a contract of your own. -/
theorem walk (a0 : Int) (a1 : Int) (a2 : Int) (a3 : Int) (a4 : Int) (a5 : Int) (w0 : (Lit.int .i64 a0).wf = true) (w1 : (Lit.int .i64 a1).wf = true) (w2 : (Lit.int .i64 a2).wf = true) (w3 : (Lit.int .i64 a3).wf = true) (w4 : (Lit.int .i64 a4).wf = true) (w5 : (Lit.int .i64 a5).wf = true) (w : World) :
    Calls Trym.prog 3 #[.int .i64 a0, .int .i64 a1, .int .i64 a2, .int .i64 a3, .int .i64 a4, .int .i64 a5] w fun e w' => e = .returned (.bool true) ∧ Grown w w' := by
  by_cases hin : 0 ≤ a0 ∧ a0 ≤ 1152921504606846976 ∧ 0 ≤ a1 ∧ a1 ≤ 1152921504606846976 ∧ 0 ≤ a2 ∧ a2 ≤ 1152921504606846976 ∧ 0 ≤ a5 ∧ a5 ≤ 1152921504606846976
  · obtain ⟨h0, h1, h2, h3, h4, h5, h6, h7⟩ := hin
    exact walk_in a0 a1 a2 a3 a4 a5 w h0 h1 h2 h3 h4 h5 h6 h7
  · go_enter Trym.func3, Trym.ntmps3
    go_wp2_with fail
    all_goals first | (go_ret; exact ⟨rfl, Grown.refl _⟩) | (exfalso; omega)

/-! ### THE ROW's STEP: WRITTEN OUT: LEAVE IT -/
set_option maxRecDepth 100000 in
theorem lifted (os : Os) (started : os.Started) (H : Type) (enc : TypeId × Value → H) :
    ReturnsInHanded {} Trym.checked os 3 .any (Rows.fnInUseGrowsWithMappingSpec.pre6 enc Trym.prog Trym.f3 Rows.fnInUseGrowsWithMappingRow.domain false) (Rows.fnInUseGrowsWithMappingSpec.post enc Trym.prog Trym.f3 false true false false) := by
  refine returnsInHanded_of_change (C := Trym.checked) own started (by kernel_rfl) Trym.func3
    (ChangeSpec.witness6 (enc := enc) (C := Trym.checked) false ⟨#[], #[.int .i64 0, .int .i64 0, .int .i64 0, .int .i64 0, .int .i64 0, .int .i64 0], []⟩ 8 (by kernel_rfl) (by kernel_rfl) (by kernel_rfl) (by kernel_rfl)) ?_
  intro W base args ds gs before hval0 hW hcnd _
  have hval : ∀ (j : Nat) t v, Trym.f3.params[j]? = some t → args[j]? = some v → Value.okWide Trym.prog W .any base t v := hval0
  have hW' := hW
  obtain ⟨p, q, hA0, hV, rfl, hfz, hnd⟩ := hW
  have hA : DataW.TrodAll enc Trym.prog W 0 (fun _ => true) true Trym.f3.params.toList args.toList ds p := hA0
  rw [Trym.params3] at hA hval
  obtain ⟨v0, vs0, d0, ds0, p0, q0, hargs, rfl, rfl, h0, r0⟩ := trodAll_cons hA
  obtain ⟨v1, vs1, d1, ds1, p1, q1, rfl, rfl, rfl, h1, r1⟩ := trodAll_cons r0
  obtain ⟨v2, vs2, d2, ds2, p2, q2, rfl, rfl, rfl, h2, r2⟩ := trodAll_cons r1
  obtain ⟨v3, vs3, d3, ds3, p3, q3, rfl, rfl, rfl, h3, r3⟩ := trodAll_cons r2
  obtain ⟨v4, vs4, d4, ds4, p4, q4, rfl, rfl, rfl, h4, r4⟩ := trodAll_cons r3
  obtain ⟨v5, vs5, d5, ds5, p5, q5, rfl, rfl, rfl, h5, r5⟩ := trodAll_cons r4
  obtain ⟨rfl, rfl, rfl⟩ := trodAll_nil r5
  obtain rfl : args = #[v0, v1, v2, v3, v4, v5] := by cases args; simp_all
  obtain ⟨rfl, rfl⟩ := trodVars_none hV
  obtain ⟨a0, rfl, rfl, rfl, w0⟩ := open_int Trym.underlying2 (hval 0 2 v0 rfl rfl) h0
  obtain ⟨a1, rfl, rfl, rfl, w1⟩ := open_int Trym.underlying2 (hval 1 2 v1 rfl rfl) h1
  obtain ⟨a2, rfl, rfl, rfl, w2⟩ := open_int Trym.underlying2 (hval 2 2 v2 rfl rfl) h2
  obtain ⟨a3, rfl, rfl, rfl, w3⟩ := open_int Trym.underlying2 (hval 3 2 v3 rfl rfl) h3
  obtain ⟨a4, rfl, rfl, rfl, w4⟩ := open_int Trym.underlying2 (hval 4 2 v4 rfl rfl) h4
  obtain ⟨a5, rfl, rfl, rfl, w5⟩ := open_int Trym.underlying2 (hval 5 2 v5 rfl rfl) h5
  clear hA0 hval0
  simp only [List.append_nil] at hW'
  refine (walk a0 a1 a2 a3 a4 a5 w0 w1 w2 w3 w4 w5 W).mono fun e W' ⟨he, hg⟩ => ?_
  subst he
  exact ⟨_, rfl, post_of_same (pa := []) (pv := []) hW' (fun _ _ _ => (trodAll_cons_mk (shut_bool Trym.underlying4 _) trodAll_mk0)) (fun sp _ => (trodAll_cons_mk (shut_int Trym.underlying2 w0) (trodAll_cons_mk (shut_int Trym.underlying2 w1) (trodAll_cons_mk (shut_int Trym.underlying2 w2) (trodAll_cons_mk (shut_int Trym.underlying2 w3) (trodAll_cons_mk (shut_int Trym.underlying2 w4) (trodAll_cons_mk (shut_int Trym.underlying2 w5) trodAll_mk0))))))) (fun _ _ => rfl) rfl
    (hg.frame _) hg.2.1 (ok_one (by kernel_rfl) rfl (okWide_bool_mk Trym.underlying4 _))⟩

theorem over : Rows.fnInUseGrowsWithMappingRow.holds Trym.pinned (OpenSpec.ofChange Rows.fnInUseGrowsWithMappingSpec) :=
  OpenClaim.holds_of_wide 3 Trym.f3 rfl rfl rfl rfl rfl rfl rfl ⟨rfl, rfl, rfl, rfl, rfl⟩ rfl rfl rfl rfl rfl (by kernel_rfl) Trym.func3 (by kernel_rfl)
    (of_decide_eq_true (by kernel_rfl)) (by unfold Func.isWrapper; first | (rw [if_pos (by decide +kernel)]; kernel_rfl) | (rw [if_neg (by decide +kernel)]; exact ⟨rfl, rfl⟩))
    (fun os started H enc _ => lifted os started H enc)

/-- ████ THE STATEMENT ████ -/
theorem proved : Rows.FnInUseGrowsWithMappingSaid :=
  over
#print axioms proved
end Go.Proofs.Qxb6614236aMods.fnInUseGrowsWithMapping

/-
  PROOF OF 'Rows.FnInUseReadsOnlyStartMappedFreeSaid': the shell's frame, the walk filled in over the contracts of Qxb6614236aModsParts.
-/
import Derived.Test.Qxb6614236aModsRows
import Derived.Test.Qxb6614236aModsParts
import Derived.WalkKit
import Derived.ProofKit
import Derived.OpenShut
import Derived.ShutString
namespace Go.Proofs.Qxb6614236aMods.fnInUseReadsOnlyStartMappedFree
open Go.ChangeShapes Go.WideShapes Go.ChangeAt Go.RowKit
open Go.ChangeMaps (open_string shut_string)
set_option linter.unusedVariables false      -- a walk need not use every 'w<i>' (that an integer argument fits its kind)

theorem own : ownKnob Trym.prog.godebug = none := by kernel_rfl

theorem used_char (m f s : Int) : 0 ≤ used m f s ∧ m - f - s ≤ used m f s ∧ (used m f s = 0 ∨ used m f s = m - f - s) := by unfold used; split <;> omega
theorem used_both (m f s k : Int) : used (m + k) f (s + k) = used m f s := by unfold used; split <;> split <;> omega
theorem used_free (m f s k : Int) : used m (f + k) s = used m f (s + k) := by unfold used; split <;> split <;> omega
theorem used_less (m f s k : Int) (hk : 0 ≤ k) : used m f (s + k) ≤ used m f s ∧ used m f s - used m f (s + k) ≤ k := by unfold used; split <;> split <;> omega
theorem used_top (m f s : Int) (hm : m ≤ 1152921504606846976) (hf : 0 ≤ f) (hs : 0 ≤ s) : 0 ≤ used m f s ∧ used m f s ≤ 1152921504606846976 := by unfold used; split <;> omega
set_option maxRecDepth 100000 in
set_option maxHeartbeats 800000 in
theorem walk_in (a0 a1 a2 a3 : Int) (a4 : Bool) (a5 a6 a7 a8 a9 a10 a11 : Int) (w : World) (h0 : 0 ≤ a0) (h1 : a0 ≤ 1152921504606846976) (h2 : 0 ≤ a5) (h3 : a5 ≤ 1152921504606846976) (h4 : 0 ≤ a6) (h5 : a6 ≤ 1152921504606846976) (h6 : 0 ≤ a11) (h7 : a11 ≤ 1152921504606846976) (g1 : 0 ≤ a1) (g2 : 0 ≤ a2) (g3 : 0 ≤ a3) :
    Calls Trym.prog 4 #[.int .i64 a0, .int .i64 a1, .int .i64 a2, .int .i64 a3, .bool a4, .int .i64 a5, .int .i64 a6, .int .i64 a7, .int .i64 a8, .int .i64 a9, .int .i64 a10, .int .i64 a11] w fun e w' => e = .returned (.bool true) ∧ Grown w w' := by
    go_enter Trym.func4, Trym.ntmps4
    go_wp2_with fail
    refine (newMem_any a0 a1 a2 a3 a4 _).mono ?_
    rintro e w1 ⟨b1, rfl, hc1, ho1⟩
    go_wp2_with fail
    refine (newHeap_any a5 a6 a7 a8 _).mono ?_
    rintro e w2 ⟨rfl, ho2⟩
    go_wp2_with fail
    refine (zzInUse_any b1 a0 a5 a6 a7 a8 _ (ho2.cell hc1) h0 (by omega) h2 (by omega) h4 (by omega)).mono ?_
    rintro e w3 ⟨rfl, ho3⟩
    replace ho3 := (ho1.trans ho2).trans ho3
    clear hc1 ho1 ho2
    go_wp2_with fail
    refine (newMem_any a0 0 0 0 false _).mono ?_
    rintro e w1 ⟨b2, rfl, hc1, ho1⟩
    go_wp2_with fail
    refine (newHeap_any a5 a6 a9 a10 _).mono ?_
    rintro e w2 ⟨rfl, ho2⟩
    go_wp2_with fail
    refine (zzInUse_any b2 a0 a5 a6 a9 a10 _ (ho2.cell hc1) h0 (by omega) h2 (by omega) h4 (by omega)).mono ?_
    rintro e w4 ⟨rfl, ho4⟩
    replace ho4 := ((ho3.trans ho1).trans ho2).trans ho4
    clear hc1 ho1 ho2 ho3
    go_wp2_with fail
    refine (newMem_any (a0 + a11) a1 a2 a3 a4 _).mono ?_
    rintro e w1 ⟨b3, rfl, hc1, ho1⟩
    go_wp2_with fail
    refine (newHeap_any (a5 + a11) a6 a7 a8 _).mono ?_
    rintro e w2 ⟨rfl, ho2⟩
    go_wp2_with fail
    refine (zzInUse_any b3 (a0 + a11) (a5 + a11) a6 a7 a8 _ (ho2.cell hc1) (by omega) (by omega) (by omega) (by omega) h4 (by omega)).mono ?_
    rintro e w5 ⟨rfl, ho5⟩
    replace ho5 := ((ho4.trans ho1).trans ho2).trans ho5
    clear hc1 ho1 ho2 ho4
    go_wp2_with fail
    refine (newMem_any (a0 + a11) 0 0 0 false _).mono ?_
    rintro e w1 ⟨b4, rfl, hc1, ho1⟩
    go_wp2_with fail
    refine (newHeap_any a5 a6 a7 a8 _).mono ?_
    rintro e w2 ⟨rfl, ho2⟩
    go_wp2_with fail
    refine (zzInUse_any b4 (a0 + a11) a5 a6 a7 a8 _ (ho2.cell hc1) (by omega) (by omega) h2 (by omega) h4 (by omega)).mono ?_
    rintro e w6 ⟨rfl, ho6⟩
    replace ho6 := ((ho5.trans ho1).trans ho2).trans ho6
    clear hc1 ho1 ho2 ho5
    go_wp2_with fail
    refine (newMem_any a0 0 0 0 false _).mono ?_
    rintro e w1 ⟨b5, rfl, hc1, ho1⟩
    go_wp2_with fail
    refine (newHeap_any a5 (a6 + a11) a7 a8 _).mono ?_
    rintro e w2 ⟨rfl, ho2⟩
    go_wp2_with fail
    refine (zzInUse_any b5 a0 a5 (a6 + a11) a7 a8 _ (ho2.cell hc1) h0 (by omega) h2 (by omega) (by omega) (by omega)).mono ?_
    rintro e w7 ⟨rfl, ho7⟩
    have HG : Hid (Grown w w7) := (((ho6.trans ho1).trans ho2).trans ho7).1
    clear hc1 ho1 ho2 ho6 ho7
    rw [used_both, used_free]
    go_wp2_with fail
    have hu := used_char a5 a6 a0
    refine (char_yes (used a5 a6 a0) (a5 - a6 - a0) _ hu.1 hu.2.1 hu.2.2).mono ?_
    clear hu
    rintro e w8 ⟨rfl, rfl⟩
    have hl := used_less a5 a6 a0 a11 h6
    have ht := used_top a5 a6 a0 h3 h4 h0
    have ht2 := used_top a5 a6 (a0 + a11) h3 h4 (by omega)
    have hl1 : decide (used a5 a6 (a0 + a11) ≤ used a5 a6 a0) = true := by simpa using hl.1
    go_wp2
    go_ret
    exact ⟨by first | rfl | simp, HG.out⟩

/-! ### STEP 1: THE WALK: the Go text returns true. 'Grown w w'': the world has at most new blocks (Derived/RowKit3.lean). Part the cases AHEAD of 'go_enter' where a test parts the walk; take each callee by a contract of your own. -/
set_option maxRecDepth 100000 in
set_option maxHeartbeats 1600000 in
theorem walk (a0 : Int) (a1 : Int) (a2 : Int) (a3 : Int) (a4 : Bool) (a5 : Int) (a6 : Int) (a7 : Int) (a8 : Int) (a9 : Int) (a10 : Int) (a11 : Int) (w0 : (Lit.int .i64 a0).wf = true) (w1 : (Lit.int .i64 a1).wf = true) (w2 : (Lit.int .i64 a2).wf = true) (w3 : (Lit.int .i64 a3).wf = true) (w5 : (Lit.int .i64 a5).wf = true) (w6 : (Lit.int .i64 a6).wf = true) (w7 : (Lit.int .i64 a7).wf = true) (w8 : (Lit.int .i64 a8).wf = true) (w9 : (Lit.int .i64 a9).wf = true) (w10 : (Lit.int .i64 a10).wf = true) (w11 : (Lit.int .i64 a11).wf = true) (w : World) :
    Calls Trym.prog 4 #[.int .i64 a0, .int .i64 a1, .int .i64 a2, .int .i64 a3, .bool a4, .int .i64 a5, .int .i64 a6, .int .i64 a7, .int .i64 a8, .int .i64 a9, .int .i64 a10, .int .i64 a11] w fun e w' => e = .returned (.bool true) ∧ Grown w w' := by
  by_cases hin : 0 ≤ a0 ∧ a0 ≤ 1152921504606846976 ∧ 0 ≤ a5 ∧ a5 ≤ 1152921504606846976 ∧ 0 ≤ a6 ∧ a6 ≤ 1152921504606846976 ∧ 0 ≤ a11 ∧ a11 ≤ 1152921504606846976
  · obtain ⟨h0, h1, h2, h3, h4, h5, h6, h7⟩ := hin
    by_cases hin : 0 ≤ a1 ∧ 0 ≤ a2 ∧ 0 ≤ a3
    · obtain ⟨g1, g2, g3⟩ := hin
      exact walk_in a0 a1 a2 a3 a4 a5 a6 a7 a8 a9 a10 a11 w h0 h1 h2 h3 h4 h5 h6 h7 g1 g2 g3
    · go_enter Trym.func4, Trym.ntmps4
      go_wp2_with fail
      all_goals first | (go_ret; exact ⟨rfl, Grown.refl _⟩) | (exfalso; omega)
  · go_enter Trym.func4, Trym.ntmps4
    go_wp2_with fail
    all_goals first | (go_ret; exact ⟨rfl, Grown.refl _⟩) | (exfalso; omega)

/-! ### THE ROW's STEP: WRITTEN OUT: LEAVE IT -/
set_option maxRecDepth 100000 in
theorem lifted (os : Os) (started : os.Started) (H : Type) (enc : TypeId × Value → H) :
    ReturnsInHanded {} Trym.checked os 4 .any (Rows.fnInUseReadsOnlyStartMappedFreeSpec.pre6 enc Trym.prog Trym.f4 Rows.fnInUseReadsOnlyStartMappedFreeRow.domain false) (Rows.fnInUseReadsOnlyStartMappedFreeSpec.post enc Trym.prog Trym.f4 false true false false) := by
  refine returnsInHanded_of_change (C := Trym.checked) own started (by kernel_rfl) Trym.func4
    (ChangeSpec.witness6 (enc := enc) (C := Trym.checked) false ⟨#[], #[.int .i64 0, .int .i64 0, .int .i64 0, .int .i64 0, .bool false, .int .i64 0, .int .i64 0, .int .i64 0, .int .i64 0, .int .i64 0, .int .i64 0, .int .i64 0], []⟩ 8 (by kernel_rfl) (by kernel_rfl) (by kernel_rfl) (by kernel_rfl)) ?_
  intro W base args ds gs before hval0 hW hcnd _
  have hval : ∀ (j : Nat) t v, Trym.f4.params[j]? = some t → args[j]? = some v → Value.okWide Trym.prog W .any base t v := hval0
  have hW' := hW
  obtain ⟨p, q, hA0, hV, rfl, hfz, hnd⟩ := hW
  have hA : DataW.TrodAll enc Trym.prog W 0 (fun _ => true) true Trym.f4.params.toList args.toList ds p := hA0
  rw [Trym.params4] at hA hval
  obtain ⟨v0, vs0, d0, ds0, p0, q0, hargs, rfl, rfl, h0, r0⟩ := trodAll_cons hA
  obtain ⟨v1, vs1, d1, ds1, p1, q1, rfl, rfl, rfl, h1, r1⟩ := trodAll_cons r0
  obtain ⟨v2, vs2, d2, ds2, p2, q2, rfl, rfl, rfl, h2, r2⟩ := trodAll_cons r1
  obtain ⟨v3, vs3, d3, ds3, p3, q3, rfl, rfl, rfl, h3, r3⟩ := trodAll_cons r2
  obtain ⟨v4, vs4, d4, ds4, p4, q4, rfl, rfl, rfl, h4, r4⟩ := trodAll_cons r3
  obtain ⟨v5, vs5, d5, ds5, p5, q5, rfl, rfl, rfl, h5, r5⟩ := trodAll_cons r4
  obtain ⟨v6, vs6, d6, ds6, p6, q6, rfl, rfl, rfl, h6, r6⟩ := trodAll_cons r5
  obtain ⟨v7, vs7, d7, ds7, p7, q7, rfl, rfl, rfl, h7, r7⟩ := trodAll_cons r6
  obtain ⟨v8, vs8, d8, ds8, p8, q8, rfl, rfl, rfl, h8, r8⟩ := trodAll_cons r7
  obtain ⟨v9, vs9, d9, ds9, p9, q9, rfl, rfl, rfl, h9, r9⟩ := trodAll_cons r8
  obtain ⟨v10, vs10, d10, ds10, p10, q10, rfl, rfl, rfl, h10, r10⟩ := trodAll_cons r9
  obtain ⟨v11, vs11, d11, ds11, p11, q11, rfl, rfl, rfl, h11, r11⟩ := trodAll_cons r10
  obtain ⟨rfl, rfl, rfl⟩ := trodAll_nil r11
  obtain rfl : args = #[v0, v1, v2, v3, v4, v5, v6, v7, v8, v9, v10, v11] := by cases args; simp_all
  obtain ⟨rfl, rfl⟩ := trodVars_none hV
  obtain ⟨a0, rfl, rfl, rfl, w0⟩ := open_int Trym.underlying2 (hval 0 2 v0 rfl rfl) h0
  obtain ⟨a1, rfl, rfl, rfl, w1⟩ := open_int Trym.underlying2 (hval 1 2 v1 rfl rfl) h1
  obtain ⟨a2, rfl, rfl, rfl, w2⟩ := open_int Trym.underlying2 (hval 2 2 v2 rfl rfl) h2
  obtain ⟨a3, rfl, rfl, rfl, w3⟩ := open_int Trym.underlying3 (hval 3 3 v3 rfl rfl) h3
  obtain ⟨a4, rfl, rfl, rfl⟩ := open_bool Trym.underlying4 (hval 4 4 v4 rfl rfl) h4
  obtain ⟨a5, rfl, rfl, rfl, w5⟩ := open_int Trym.underlying2 (hval 5 2 v5 rfl rfl) h5
  obtain ⟨a6, rfl, rfl, rfl, w6⟩ := open_int Trym.underlying2 (hval 6 2 v6 rfl rfl) h6
  obtain ⟨a7, rfl, rfl, rfl, w7⟩ := open_int Trym.underlying2 (hval 7 2 v7 rfl rfl) h7
  obtain ⟨a8, rfl, rfl, rfl, w8⟩ := open_int Trym.underlying2 (hval 8 2 v8 rfl rfl) h8
  obtain ⟨a9, rfl, rfl, rfl, w9⟩ := open_int Trym.underlying2 (hval 9 2 v9 rfl rfl) h9
  obtain ⟨a10, rfl, rfl, rfl, w10⟩ := open_int Trym.underlying2 (hval 10 2 v10 rfl rfl) h10
  obtain ⟨a11, rfl, rfl, rfl, w11⟩ := open_int Trym.underlying2 (hval 11 2 v11 rfl rfl) h11
  clear hA0 hval0
  simp only [List.append_nil] at hW'
  refine (walk a0 a1 a2 a3 a4 a5 a6 a7 a8 a9 a10 a11 w0 w1 w2 w3 w5 w6 w7 w8 w9 w10 w11 W).mono fun e W' ⟨he, hg⟩ => ?_
  subst he
  exact ⟨_, rfl, post_of_same (pa := []) (pv := []) hW' (fun _ _ _ => (trodAll_cons_mk (shut_bool Trym.underlying4 _) trodAll_mk0)) (fun sp _ => (trodAll_cons_mk (shut_int Trym.underlying2 w0) (trodAll_cons_mk (shut_int Trym.underlying2 w1) (trodAll_cons_mk (shut_int Trym.underlying2 w2) (trodAll_cons_mk (shut_int Trym.underlying3 w3) (trodAll_cons_mk (shut_bool Trym.underlying4 _) (trodAll_cons_mk (shut_int Trym.underlying2 w5) (trodAll_cons_mk (shut_int Trym.underlying2 w6) (trodAll_cons_mk (shut_int Trym.underlying2 w7) (trodAll_cons_mk (shut_int Trym.underlying2 w8) (trodAll_cons_mk (shut_int Trym.underlying2 w9) (trodAll_cons_mk (shut_int Trym.underlying2 w10) (trodAll_cons_mk (shut_int Trym.underlying2 w11) trodAll_mk0))))))))))))) (fun _ _ => rfl) rfl
    (hg.frame _) hg.2.1 (ok_one (by kernel_rfl) rfl (okWide_bool_mk Trym.underlying4 _))⟩

theorem over : Rows.fnInUseReadsOnlyStartMappedFreeRow.holds Trym.pinned (OpenSpec.ofChange Rows.fnInUseReadsOnlyStartMappedFreeSpec) :=
  OpenClaim.holds_of_wide 4 Trym.f4 rfl rfl rfl rfl rfl rfl rfl ⟨rfl, rfl, rfl, rfl, rfl⟩ rfl rfl rfl rfl rfl (by kernel_rfl) Trym.func4 (by kernel_rfl)
    (of_decide_eq_true (by kernel_rfl)) (by unfold Func.isWrapper; first | (rw [if_pos (by decide +kernel)]; kernel_rfl) | (rw [if_neg (by decide +kernel)]; exact ⟨rfl, rfl⟩))
    (fun os started H enc _ => lifted os started H enc)

/-- ████ THE STATEMENT ████ -/
theorem proved : Rows.FnInUseReadsOnlyStartMappedFreeSaid :=
  over
#print axioms proved
end Go.Proofs.Qxb6614236aMods.fnInUseReadsOnlyStartMappedFree

/-
  PROOF OF 'Rows.FnEditDistanceBoundsSaid': the shell's frame (its end by 'Below'), the walk over the contracts of Qxb6001239aModsSmall and Qxb6001239aModsDist.
-/
import Derived.Test.Qxb6001239aModsRows
import Derived.Test.Qxb6001239aModsDist
import Derived.WalkKit
import Derived.ProofKit
import Derived.OpenShut
import Derived.ShutString
import Derived.ChangeOld
import Derived.Below
namespace Go.Proofs.Qxb6001239aMods.fnEditDistanceBounds
open Go.ChangeShapes Go.WideShapes Go.ChangeAt Go.RowKit
open Go.ChangeMaps (open_string shut_string)
set_option linter.unusedVariables false      -- a walk need not use every 'w<i>' (that an integer argument fits its kind)

theorem own : ownKnob Trym.prog.godebug = none := by kernel_rfl

set_option maxHeartbeats 800000 in
theorem walkB (a b : ByteArray) (ha0 : a.size ≤ maxLen) (hb0 : b.size ≤ maxLen) (w : World) :
    Calls Trym.prog 4 #[.string a, .string b] w fun e w' => e = .returned (.bool true) ∧ Below w.heap.size w w' := by
  by_cases hin : a.size ≤ 4096 ∧ b.size ≤ 4096
  case neg =>
    unfold maxLen at ha0 hb0
    go_enter Trym.func4, Trym.ntmps4
    go_wp2_with fail
    refine (bytes11_any a b _ (by unfold maxLen; exact ha0) (by unfold maxLen; exact hb0)).mono ?_
    rintro e w1 ⟨r, rfl, rfl⟩
    cases r
    all_goals
      go_wp2_with fail
      all_goals first | (exfalso; omega) | (go_ret; exact ⟨rfl, Below.refl _ _⟩)
  case pos =>
    obtain ⟨ha, hb⟩ := hin
    go_enter Trym.func4, Trym.ntmps4
    go_wp2_with fail
    refine (bytes11_any a b _ ha0 hb0).mono ?_
    rintro e w1 ⟨r, rfl, rfl⟩
    cases r with
    | false =>
      go_wp2_with fail
      go_ret
      exact ⟨rfl, Below.refl _ _⟩
    | true =>
      obtain ⟨capx, csx, hrx, hcx, hlx⟩ := run_runes w1 a (by omega)
      obtain ⟨capy, csy, hry, hcy, hly⟩ := run_runes (w1.alloc (.cells csx 21)).drew b (by omega)
      rw [show ((w1.alloc (.cells csx 21)).drew).heap.size = w1.heap.size + 1 by simp] at hry
      have hnx := runesOf_le a
      have hny := runesOf_le b
      have z1 := dist_lower (runesOf a) (runesOf b)
      have z2 := dist_upper (runesOf a) (runesOf b)
      have z3 := dist_zero (runesOf a) (runesOf b)
      have hcall := fun wx => zz_any a b wx (by omega) (by omega)
      obtain ⟨xs, hxs⟩ : ∃ xs, runesOf a = xs := ⟨_, rfl⟩
      obtain ⟨ys, hys⟩ : ∃ ys, runesOf b = ys := ⟨_, rfl⟩
      rw [hxs] at hrx hcx hlx hnx z1 z2 z3
      rw [hys] at hry hcy hly hny z1 z2 z3
      have HC : Hid (∀ wx, Calls Trym.prog 10 #[.string a, .string b] wx fun e w' => e = .returned (.int .i64 (dist xs ys : Nat)) ∧ Below wx.heap.size wx w') := by
        rw [hxs, hys] at hcall; exact hcall
      obtain ⟨dd, hdd⟩ : ∃ d, dist xs ys = d := ⟨_, rfl⟩
      rw [hdd] at HC z1 z2 z3
      obtain ⟨nx, hnx'⟩ : ∃ n, xs.length = n := ⟨_, rfl⟩
      obtain ⟨ny, hny'⟩ : ∃ n, ys.length = n := ⟨_, rfl⟩
      rw [hnx'] at hrx hcx hlx hnx z1 z2
      rw [hny'] at hry hcy hly hny z1 z2
      have HL : Hid (xs.length = nx ∧ ys.length = ny) := ⟨hnx', hny'⟩
      have HK : Hid ((∀ j, j < nx → csx[j]? = some (.int .i32 (xs.getD j 0))) ∧ (∀ j, j < ny → csy[j]? = some (.int .i32 (ys.getD j 0)))) := ⟨hcx, hcy⟩
      have HZ : Hid (dd = 0 ↔ xs = ys) := z3
      clear hcx hcy z3 hcall hxs hys hdd hnx' hny'
      go_wp2_with fail
      refine (HC.out _).mono ?_
      rintro e w2 ⟨rfl, hb2⟩
      have bx : ∀ k, k < nx → w2.cell? ⟨w1.heap.size, k, none⟩ = some (.int .i32 (xs.getD k 0)) := by
        intro k hk
        have e : (((w1.alloc (.cells csx 21)).alloc (.cells csy 21)).drew.drew).cell? ⟨w1.heap.size, k, none⟩ = some (.int .i32 (xs.getD k 0)) := by
          show ((w1.alloc (.cells csx 21)).alloc (.cells csy 21)).cell? ⟨w1.heap.size, k, none⟩ = _
          rw [World.cell?_alloc_past _ _ _ (by simp), World.cell?_alloc_at _ _ _ _ rfl]
          exact HK.out.1 k hk
        exact (hb2.cell (p := ⟨w1.heap.size, k, none⟩) (by simp; omega)).trans e
      have by' : ∀ k, k < ny → w2.cell? ⟨w1.heap.size + 1, k, none⟩ = some (.int .i32 (ys.getD k 0)) := by
        intro k hk
        have e : (((w1.alloc (.cells csx 21)).alloc (.cells csy 21)).drew.drew).cell? ⟨w1.heap.size + 1, k, none⟩ = some (.int .i32 (ys.getD k 0)) := by
          show ((w1.alloc (.cells csx 21)).alloc (.cells csy 21)).cell? ⟨w1.heap.size + 1, k, none⟩ = _
          rw [World.cell?_alloc_at _ _ _ _ (by simp)]
          exact HK.out.2 k hk
        exact (hb2.cell (p := ⟨w1.heap.size + 1, k, none⟩) (by simp)).trans e
      have HBel : Hid (Below w1.heap.size w1 w2) := ((((Below.refl _ _).alloc (Nat.le_refl _) _).alloc (by simp) _).drew.drew).trans (hb2.mono (by simp; omega))
      have HKK : Hid _ := And.intro bx by'
      clear bx by' hb2 HK hrx hry
      by_cases hlo : nx < ny
      all_goals
        by_cases hhi : nx < ny
        all_goals
          first
          | (exfalso; omega)
          | (go_wp2_with fail
             refine (runesEq_any _ _ _ _ nx ny xs ys _ HL.out.1 HL.out.2 (by omega) (by omega) HKK.out.1 HKK.out.2).mono ?_
             rintro e w3 ⟨rfl, hb3⟩
             have HB3 : Hid (Below w1.heap.size w1 w3) := HBel.out.trans (hb3.mono HBel.out.size)
             clear hb3
             by_cases hxy : xs = ys
             · have hq : eqB xs ys = true := by unfold eqB; simpa using hxy
               have hd : ((dd : Int) == 0) = true := by have := HZ.out.2 hxy; simp [this]
               rw [hq]
               clear hxy hq
               go_wp2
               go_ret
               exact ⟨rfl, HB3.out⟩
             · have hq : eqB xs ys = false := by unfold eqB; simpa using hxy
               have hd : ((dd : Int) == 0) = false := by
                 have : dd ≠ 0 := fun h => hxy (HZ.out.1 h)
                 simp; omega
               rw [hq]
               clear hxy hq
               go_wp2
               go_ret
               exact ⟨rfl, HB3.out⟩)

/-! ### THE ROW's STEP: WRITTEN OUT: LEAVE IT -/
set_option maxRecDepth 100000 in
theorem lifted (os : Os) (started : os.Started) (H : Type) (enc : TypeId × Value → H) :
    ReturnsInHanded {} Trym.checked os 4 .any (Rows.fnEditDistanceBoundsSpec.pre6 enc Trym.prog Trym.f4 Rows.fnEditDistanceBoundsRow.domain false) (Rows.fnEditDistanceBoundsSpec.post enc Trym.prog Trym.f4 false true false false) := by
  refine returnsInHanded_of_change (C := Trym.checked) own started (by kernel_rfl) Trym.func4
    (ChangeSpec.witness6 (enc := enc) (C := Trym.checked) false ⟨#[], #[.string ByteArray.empty, .string ByteArray.empty], []⟩ 8 (by kernel_rfl) (by kernel_rfl) (by kernel_rfl) (by kernel_rfl)) ?_
  intro W base args ds gs before hval0 hW hcnd _
  have hval : ∀ (j : Nat) t v, Trym.f4.params[j]? = some t → args[j]? = some v → Value.okWide Trym.prog W .any base t v := hval0
  have hW' := hW
  obtain ⟨p, q, hA0, hV, rfl, hfz, hnd⟩ := hW
  have hA : DataW.TrodAll enc Trym.prog W 0 (fun _ => true) true Trym.f4.params.toList args.toList ds p := hA0
  rw [Trym.params4] at hA hval
  obtain ⟨v0, vs0, d0, ds0, p0, q0, hargs, rfl, rfl, h0, r0⟩ := trodAll_cons hA
  obtain ⟨v1, vs1, d1, ds1, p1, q1, rfl, rfl, rfl, h1, r1⟩ := trodAll_cons r0
  obtain ⟨rfl, rfl, rfl⟩ := trodAll_nil r1
  obtain rfl : args = #[v0, v1] := by cases args; simp_all
  obtain ⟨rfl, rfl⟩ := trodVars_none hV
  obtain ⟨a0, rfl, rfl, rfl, w0⟩ := open_string Trym.underlying9 (hval 0 9 v0 rfl rfl) h0
  obtain ⟨a1, rfl, rfl, rfl, w1⟩ := open_string Trym.underlying9 (hval 1 9 v1 rfl rfl) h1
  clear hA0 hval0
  simp only [List.append_nil] at hW'
  refine (walkB a0 a1 w0 w1 W).mono fun e W' ⟨he, bel⟩ => ?_
  subst he
  exact ⟨_, rfl, _, _, _, [], [], [], hW', trodAll_mk1 (shut_bool Trym.underlying4 _), (trodAll_cons_mk (shut_string Trym.underlying9 w0) (trodAll_cons_mk (shut_string Trym.underlying9 w1) trodAll_mk0)), rfl, bel.frame _, fun h => by cases h⟩

theorem over : Rows.fnEditDistanceBoundsRow.holds Trym.pinned (OpenSpec.ofChange Rows.fnEditDistanceBoundsSpec) :=
  OpenClaim.holds_of_wide 4 Trym.f4 rfl rfl rfl rfl rfl rfl rfl ⟨rfl, rfl, rfl, rfl, rfl⟩ rfl rfl rfl rfl rfl (by kernel_rfl) Trym.func4 (by kernel_rfl)
    (of_decide_eq_true (by kernel_rfl)) (by unfold Func.isWrapper; first | (rw [if_pos (by decide +kernel)]; kernel_rfl) | (rw [if_neg (by decide +kernel)]; exact ⟨rfl, rfl⟩))
    (fun os started H enc _ => lifted os started H enc)

/-- ████ THE STATEMENT ████ -/
theorem proved : Rows.FnEditDistanceBoundsSaid :=
  over
#print axioms proved
end Go.Proofs.Qxb6001239aMods.fnEditDistanceBounds

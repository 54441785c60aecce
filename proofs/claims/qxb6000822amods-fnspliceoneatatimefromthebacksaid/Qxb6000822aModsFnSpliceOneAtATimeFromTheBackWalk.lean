/-
  SEAT b6000822aM: the law 'one edit at a time, from the back', walked.
-/
import Derived.Test.Qxb6000822aModsSplice
import Derived.Test.Qxb6000822aModsLaws
namespace Go.Proofs.Qxb6000822aMods.fnSpliceOneAtATimeFromTheBack
open Go.RowKit

theorem size32 (w : World) : (sizeOf (Trym.prog.elem 32)).run Trym.prog w = .ok 3 w := by kernel_rfl
theorem IsE.shape {w : World} {v : Value} {es : List Ed} (h : IsE w v es) : ∃ ao cap, v = .slice ao es.length cap := by
  obtain ⟨ao, b, off, cap, rfl, _⟩ := h
  exact ⟨ao, cap, rfl⟩
theorem IsE.capOf {w : World} {ao : Option Addr} {n cap : Nat} {es : List Ed} (h : IsE w (.slice ao n cap) es) : n ≤ cap ∧ cap ≤ maxLen := by
  obtain ⟨ao', b, off, cap', hv, h1, h2, h3, h4, h5⟩ := h
  cases hv
  exact ⟨h1, h2⟩
/-- One edit of a slice of edits, as a slice of its own. -/
theorem IsE.sub1 {w : World} {ao : Option Addr} {n cap : Nat} {es : List Ed} (h : IsE w (.slice ao n cap) es) (j : Nat) (hj : j < es.length) :
    IsE w (.slice (if cap = j then ao else ao.map (·.add (j * 3))) 1 (cap - j)) [es.getD j (0, 0, [])] := by
  obtain ⟨ao', b, off, cap', hv, h1, h2, h3, h4, h5⟩ := h
  cases hv
  refine ⟨_, b, off + j * 3, cap - j, rfl, by simp; omega, by omega, ?_, ?_, ?_⟩
  · intro hn
    have : ao = none := by
      split at hn
      · exact hn
      · simpa using hn
    have := h3 this
    omega
  · intro _
    rw [if_neg (by omega), h4 (by omega)]
    simp [Addr.add_lit]
  · intro i hi
    have hi0 : i = 0 := by simp at hi; omega
    subst hi0
    have := h5 j hj
    simpa using this

set_option maxRecDepth 100000 in
set_option maxHeartbeats 3200000 in
theorem walk (v0 v1 v2 v3 : Value) (z0 z1 z2 : List Int) (ts : List (List Int)) (w : World) (H0 : IsB .u8 w v0 z0) (H1 : IsB .i64 w v1 z1) (H2 : IsB .i64 w v2 z2) (H3 : IsT w v3 ts) :
    Calls Trym.prog 5 #[v0, v1, v2, v3] w fun e w' => e = .returned (.bool true) ∧ Below w.heap.size w w' := by
  have hsh0 := H0.shape
  obtain ⟨ao0, cap0, rfl⟩ := hsh0
  have hsh1 := H1.shape
  obtain ⟨ao1, cap1, rfl⟩ := hsh1
  have hsh2 := H2.shape
  obtain ⟨ao2, cap2, rfl⟩ := hsh2
  have hsh3 := H3.shape
  obtain ⟨ao3, cap3, rfl⟩ := hsh3
  go_enter Trym.func5, Trym.ntmps5
  go_wp2_with fail
  refine (bytes18_any _ _ _ _ z0 z1 z2 ts _ H0 H1 H2 H3).mono ?_
  rintro e w1 ⟨r, rfl, hr, rfl⟩
  cases r with
  | false =>
    clear hr H0 H1 H2 H3
    go_wp2
    go_ret
    exact ⟨rfl, Below.refl _ _⟩
  | true =>
    obtain ⟨g0, g1, g2, g3, g4⟩ := hr rfl
    clear hr
    go_wp2_with fail
    refine (size_any _ _ _ _ z0 z1 z2 ts _ H0 H1 H2 H3 g0 g1 g2 g3 g4).mono ?_
    rintro e w2 ⟨r, rfl, rfl⟩
    by_cases hr : r ≤ 1048576 ∧ z0.length ≤ 65536 ∧ z1.length ≤ 256 ∧ z2.length ≤ 256 ∧ ts.length ≤ 256
    case neg =>
      clear H0 H1 H2 H3 g4
      go_wp2_with fail
      all_goals first | (exfalso; omega) | (go_ret; exact ⟨rfl, Below.refl _ _⟩)
    case pos =>
      obtain ⟨g5, g6, g7, g8, g9⟩ := hr
      go_wp2_with fail
      refine (valid_any z0.length _ _ _ z1 z2 ts _ H1 H2 H3 g0 g1 g2 g3).mono ?_
      rintro e w3 ⟨r, rfl, hr, rfl⟩
      cases r with
      | false =>
        clear hr H0 H1 H2 H3
        go_wp2
        go_ret
        exact ⟨rfl, Below.refl _ _⟩
      | true =>
        obtain ⟨el1, el2, hvI⟩ := hr rfl
        obtain ⟨es, rfl, rfl, rfl, hv⟩ := eds_of el1 el2 (p := 0) hvI
        rw [totL_eds] at g4
        simp only [List.length_map] at g1 g7 H1 H2 H3 ⊢
        have hts : ∀ i, i < (es.map fun e => e.2.2).length → ((es.map fun e => e.2.2).getD i []).length ≤ 1099511627776 := by
          intro i hi
          rw [List.length_map] at hi
          rw [getD_map _ es i (0, 0, []) _ hi]
          have := tl_at_le es i hi
          omega
        clear hr el1 el2 hvI g2 g3 g5 g8 g9
        go_wp2_with fail
        refine (cloneBytes_any _ z0 _ H0 (by omega)).mono ?_
        rintro e w4 ⟨c0, rfl, C0, B0⟩
        clear H0
        go_wp2_with fail
        refine (cloneInts_any _ _ _ (H1.below B0) (by rw [List.length_map]; omega)).mono ?_
        rintro e w5 ⟨c1, rfl, C1, B1⟩
        clear H1
        go_wp2_with fail
        refine (cloneInts_any _ _ _ ((H2.below B0).below B1) (by rw [List.length_map]; omega)).mono ?_
        rintro e w6 ⟨c2, rfl, C2, B2⟩
        clear H2
        go_wp2_with fail
        refine (cloneTexts_any _ _ _ (((H3.below B0).below B1).below B2) (by rw [List.length_map]; omega) hts).mono ?_
        rintro e w7 ⟨c3, rfl, C3, B3⟩
        clear H3 hts
        replace C0 := ((C0.below B1).below B2).below B3
        replace C1 := (C1.below B2).below B3
        replace C2 := C2.below B3
        have BA : Below w3.heap.size w3 w7 := ((B0.trans (B1.mono B0.size)).trans (B2.mono (Nat.le_trans B0.size B1.size))).trans (B3.mono (Nat.le_trans (Nat.le_trans B0.size B1.size) B2.size))
        clear B0 B1 B2 B3
        go_wp2_with fail
        refine (edits_any c1 c2 c3 es _ C1 C2 C3 g1).mono ?_
        rintro e w8 ⟨ve, rfl, CE, B4⟩
        replace C0 := C0.below B4
        replace C1 := C1.below B4
        replace C2 := C2.below B4
        replace C3 := C3.below B4
        replace BA := BA.trans (B4.mono BA.size)
        clear B4
        go_wp2_with fail
        refine (zzsplice_any c0 ve z0 es _ C0 CE hv (by omega) g1 (by omega)).mono ?_
        rintro e w9 ⟨vo, rfl, CO, B5⟩
        replace C0 := C0.below B5
        replace C1 := C1.below B5
        replace C2 := C2.below B5
        replace C3 := C3.below B5
        replace CE := CE.below B5
        replace BA := BA.trans (B5.mono BA.size)
        clear B5
        obtain ⟨aoE, capE, hshE⟩ := IsE.shape CE
        subst hshE
        obtain ⟨n, hn⟩ : ∃ n, es.length = n := ⟨_, rfl⟩
        have HN : Hid (es.length = n) := hn
        have hcE := IsE.capOf CE
        rw [hn] at g1 g7 hcE CE ⊢
        unfold maxLen at hcE
        have HX : Hid (IsB .u8 w9 vo (spl z0 0 es) ∧ IsE w9 (.slice aoE n capE) es ∧ Below w3.heap.size w3 w9 ∧ Valid z0.length 0 es) := ⟨CO, CE, BA, hv⟩
        have hend : spl z0 0 (es.drop n) = z0 := by
          rw [List.drop_eq_nil_of_le (Nat.le_of_eq hn)]; rfl
        have HS : Hid (IsB .u8 w9 c0 (spl z0 0 (es.drop n))) := by rw [hend]; exact C0
        clear CO CE BA hv C0 C1 C2 C3 hend hn
        go_wp2
        go_loopw [11, 12] (fun cv i wr => ∃ k : Nat, k ≤ n ∧ i = .int .i64 ((k : Int) - 1) ∧ IsB .u8 wr cv (spl z0 0 (es.drop k)) ∧ Below w9.heap.size w9 wr) (fun _ i _ => (intOf i + 1).toNat)
        case atStart => exact ⟨n, Nat.le_refl _, rfl, HS.out, Below.refl _ _⟩
        case round =>
          obtain ⟨k, hk, rfl, hcv, hb⟩ := hrel
          by_cases hpos : 1 ≤ k
          · obtain ⟨j, rfl⟩ : ∃ j, k = j + 1 := ⟨k - 1, by omega⟩
            have hjl : j < es.length := by have := HN.out; omega
            have hE := IsE.sub1 (HX.out.2.1.below hb) j hjl
            obtain ⟨q, hq, hvj⟩ := valid_any_drop j HX.out.2.2.2 (Nat.zero_le _)
            rw [drop_cons es j hjl] at hvj
            obtain ⟨hs1, hs2⟩ := spl_one hvj
            rw [← drop_cons es j hjl] at hs1
            obtain ⟨aop, haop⟩ : ∃ x, (if capE = j then aoE else aoE.map (·.add (j * 3))) = x := ⟨_, rfl⟩
            rw [haop] at hE
            have hsl : ∀ wx, (Instr.slice 32 (.slice aoE n capE) (some (.int .i64 j)) (some (.int .i64 ((j : Int) + 1))) none).run Trym.prog wx = .ok (.slice aop 1 (capE - j)) wx := by
              intro wx
              rw [run_slice_lh (P := Trym.prog) wx 32 aoE n capE Trym.underlying32 .i64 .i64 j ((j : Int) + 1) (by omega) (by omega) (by omega), size32 wx]
              simp only [Result.andThen, sliced, Int.toNat_natCast]
              rw [haop, show ((j : Int) + 1).toNat - j = 1 by omega]
            obtain ⟨L, hL⟩ : ∃ L, spl z0 0 (es.drop (j + 1)) = L := ⟨_, rfl⟩
            rw [hL] at hcv hs1 hs2
            have hLl : L.length ≤ 1099511627776 := by
              obtain ⟨q', hq', hv'⟩ := valid_any_drop (j + 1) HX.out.2.2.2 (Nat.zero_le _)
              obtain ⟨a1, a2, a3⟩ := hvj
              have b1 := spl_take a3 a2 0 (Nat.zero_le _)
              have b2 := spl_length a3 a2
              have b3 := siz_drop_bd HX.out.2.2.2 (Nat.zero_le _) (j + 1)
              have b4 := congrArg List.length b1
              rw [hL] at b4
              simp only [List.length_append, List.length_take, List.drop_zero, Nat.sub_zero] at b4
              omega
            have hjj : ((j + 1 : Nat) : Int) - 1 = (j : Int) := by omega
            rw [hjj]
            have HJ : Hid _ := And.intro hb hs1
            clear hb hs1 haop hL hvj hq hjj
            go_wp2_with fail
            refine (zzsplice_any _ _ L [es.getD j (0, 0, [])] _ hcv hE hs2 hLl (by simp) ?_).mono ?_
            · have := tl_at_le es j hjl
              simp only [tl]
              omega
            rintro e w10 ⟨vn, rfl, Cn, Bn⟩
            have HR : Hid (IsB .u8 w10 vn (spl z0 0 (es.drop j)) ∧ Below w9.heap.size w9 w10) := ⟨by rw [← HJ.out.2]; exact Cn, HJ.out.1.trans (Bn.mono HJ.out.1.size)⟩
            clear Cn Bn hcv hE hs2 hsl
            go_wp2
            go_roundw
            case rel => exact ⟨j, by omega, rfl, HR.out.1, HR.out.2⟩
            case measure => simp [intOf]
          · obtain rfl : k = 0 := by omega
            have hcv' := hcv
            rw [List.drop_zero] at hcv'
            rw [show ((0 : Nat) : Int) - 1 = -1 by omega]
            have hco : IsB .u8 wr vo (spl z0 0 es) := HX.out.1.below hb
            have HB : Hid _ := HX.out.2.2.1.trans (hb.mono HX.out.2.2.1.size)
            clear hcv hb
            go_wp2_with fail
            refine (same_yes _ _ _ _ hcv' hco).mono ?_
            rintro e w10 ⟨rfl, hb'⟩
            have HC : Hid _ := HB.out.trans (hb'.mono HB.out.size)
            clear hcv' hco hb'
            go_wp2
            go_ret
            exact ⟨rfl, HC.out⟩

end Go.Proofs.Qxb6000822aMods.fnSpliceOneAtATimeFromTheBack

/-
  SEAT b6000822aM: the law 'splice matches the byte walk', walked.
-/
import Derived.Test.Qxb6000822aModsSplice
import Derived.Test.Qxb6000822aModsLaws
import Derived.Test.Qxb6000822aModsByteWalk
namespace Go.Proofs.Qxb6000822aMods.fnSpliceMatchesByteWalk
open Go.RowKit

set_option maxRecDepth 100000 in
set_option maxHeartbeats 3200000 in
theorem walk (v0 v1 v2 v3 : Value) (z0 z1 z2 : List Int) (ts : List (List Int)) (w : World) (H0 : IsB .u8 w v0 z0) (H1 : IsB .i64 w v1 z1) (H2 : IsB .i64 w v2 z2) (H3 : IsT w v3 ts) :
    Calls Trym.prog 3 #[v0, v1, v2, v3] w fun e w' => e = .returned (.bool true) ∧ Below w.heap.size w w' := by
  have hsh0 := H0.shape
  obtain ⟨ao0, cap0, rfl⟩ := hsh0
  have hsh1 := H1.shape
  obtain ⟨ao1, cap1, rfl⟩ := hsh1
  have hsh2 := H2.shape
  obtain ⟨ao2, cap2, rfl⟩ := hsh2
  have hsh3 := H3.shape
  obtain ⟨ao3, cap3, rfl⟩ := hsh3
  go_enter Trym.func3, Trym.ntmps3
  go_wp2_with fail
  refine (bytes6_any _ _ _ _ z0 z1 z2 ts _ H0 H1 H2 H3).mono ?_
  rintro e w1 ⟨r, rfl, hr, rfl⟩
  cases r with
  | false =>
    clear hr H0 H1 H2 H3
    go_wp2
    go_ret
    exact ⟨rfl, Below.refl _ _⟩
  | true =>
    obtain ⟨g0, g1, g2, g3, g4⟩ := hr rfl
    clear hr
    go_wp2_with fail
    refine (size_any _ _ _ _ z0 z1 z2 ts _ H0 H1 H2 H3 g0 g1 g2 g3 g4).mono ?_
    rintro e w2 ⟨r, rfl, rfl⟩
    by_cases hr : r ≤ 1048576 ∧ z0.length ≤ 65536 ∧ z1.length ≤ 4096 ∧ z2.length ≤ 4096 ∧ ts.length ≤ 4096
    case neg =>
      clear H0 H1 H2 H3 g4
      go_wp2_with fail
      all_goals first | (exfalso; omega) | (go_ret; exact ⟨rfl, Below.refl _ _⟩)
    case pos =>
      obtain ⟨g5, g6, g7, g8, g9⟩ := hr
      go_wp2_with fail
      refine (valid_any z0.length _ _ _ z1 z2 ts _ H1 H2 H3 g0 g1 g2 g3).mono ?_
      rintro e w3 ⟨r, rfl, hr, rfl⟩
      cases r with
      | false =>
        clear hr H0 H1 H2 H3
        go_wp2
        go_ret
        exact ⟨rfl, Below.refl _ _⟩
      | true =>
        obtain ⟨el1, el2, hvI⟩ := hr rfl
        obtain ⟨es, rfl, rfl, rfl, hv⟩ := eds_of el1 el2 (p := 0) hvI
        rw [totL_eds] at g4
        simp only [List.length_map] at g1 g7 H1 H2 H3 ⊢
        have hts : ∀ i, i < (es.map fun e => e.2.2).length → ((es.map fun e => e.2.2).getD i []).length ≤ 1099511627776 := by
          intro i hi
          rw [List.length_map] at hi
          rw [getD_map _ es i (0, 0, []) _ hi]
          have := tl_at_le es i hi
          omega
        clear hr el1 el2 hvI g2 g3 g5 g8 g9
        go_wp2_with fail
        refine (cloneBytes_any _ z0 _ H0 (by omega)).mono ?_
        rintro e w4 ⟨c0, rfl, C0, B0⟩
        clear H0
        go_wp2_with fail
        refine (cloneInts_any _ _ _ (H1.below B0) (by rw [List.length_map]; omega)).mono ?_
        rintro e w5 ⟨c1, rfl, C1, B1⟩
        clear H1
        go_wp2_with fail
        refine (cloneInts_any _ _ _ ((H2.below B0).below B1) (by rw [List.length_map]; omega)).mono ?_
        rintro e w6 ⟨c2, rfl, C2, B2⟩
        clear H2
        go_wp2_with fail
        refine (cloneTexts_any _ _ _ (((H3.below B0).below B1).below B2) (by rw [List.length_map]; omega) hts).mono ?_
        rintro e w7 ⟨c3, rfl, C3, B3⟩
        clear H3 hts
        replace C0 := ((C0.below B1).below B2).below B3
        replace C1 := (C1.below B2).below B3
        replace C2 := C2.below B3
        have BA : Below w3.heap.size w3 w7 := ((B0.trans (B1.mono B0.size)).trans (B2.mono (Nat.le_trans B0.size B1.size))).trans (B3.mono (Nat.le_trans (Nat.le_trans B0.size B1.size) B2.size))
        clear B0 B1 B2 B3
        go_wp2_with fail
        refine (edits_any c1 c2 c3 es _ C1 C2 C3 g1).mono ?_
        rintro e w8 ⟨ve, rfl, CE, B4⟩
        replace C0 := C0.below B4
        replace C1 := C1.below B4
        replace C2 := C2.below B4
        replace C3 := C3.below B4
        replace BA := BA.trans (B4.mono BA.size)
        clear B4
        go_wp2_with fail
        refine (zzsplice_any c0 ve z0 es _ C0 CE hv (by omega) g1 (by omega)).mono ?_
        rintro e w9 ⟨vo, rfl, CO, B5⟩
        replace C0 := C0.below B5
        replace C1 := C1.below B5
        replace C2 := C2.below B5
        replace C3 := C3.below B5
        replace CE := CE.below B5
        replace BA := BA.trans (B5.mono BA.size)
        clear B5
        obtain ⟨ao5, cap5, hsh5⟩ := C0.shape
        obtain ⟨aoA, capA, hshA⟩ := C1.shape
        obtain ⟨aoL, capL, hshL⟩ := C2.shape
        obtain ⟨aoT, capT, hshT⟩ := C3.shape
        obtain ⟨aoO, capO, hshO⟩ := CO.shape
        obtain ⟨n, hn⟩ : ∃ n, es.length = n := ⟨_, rfl⟩
        obtain ⟨dd, hdd⟩ : ∃ n, z0.length = n := ⟨_, rfl⟩
        obtain ⟨L, hL⟩ : ∃ L, (spl z0 0 es).length = L := ⟨_, rfl⟩
        have HN : Hid (es.length = n) := hn
        have HD : Hid (z0.length = dd) := hdd
        rw [List.length_map] at hshA hshL hshT
        rw [hL] at hshO
        subst hshA hshL hshT hsh5 hshO
        have hspl := spl_length hv (Nat.zero_le _)
        rw [hL] at hspl
        rw [hn] at g1 g7 C1 C2 C3 ⊢
        rw [hdd] at g0 g6 C0 hv ⊢ hspl
        have C1' := C1
        have C2' := C2
        have C3' := C3
        obtain ⟨aoL', bL, offL, capL', hvL, hlL, hmL, hnL, haL, hcL⟩ := C2
        simp only [Value.slice.injEq] at hvL
        obtain ⟨rfl, hqL, rfl⟩ := hvL
        obtain ⟨aoT', bT, offT, capT', hvT, hlT, hmT, hnT, haT, hcT⟩ := C3
        simp only [Value.slice.injEq] at hvT
        obtain ⟨rfl, hqT, rfl⟩ := hvT
        rw [List.length_map, hn] at haL haT hcL hcT
        have HX : Hid (IsB .u8 w9 (.slice aoO L capO) (spl z0 0 es) ∧ IsB .u8 w9 (.slice ao5 dd cap5) z0 ∧ IsB .i64 w9 (.slice aoA n capA) (es.map fun e => (e.1 : Int)) ∧ IsB .i64 w9 (.slice aoL n capL) (es.map fun e => (e.2.1 : Int)) ∧ IsT w9 (.slice aoT n capT) (es.map fun e => e.2.2) ∧ Below w3.heap.size w3 w9 ∧ Valid dd 0 es ∧ (L : Int) = dd + siz es) := ⟨CO, C0, C1', C2', C3', BA, hv, by omega⟩
        clear CO CE BA hv C0 C1 C1' C2' C3' hqL hqT hlL hmL hnL hlT hmT hnT hspl hL hn hdd
        go_wp2
        go_loopw [10, 11] (fun sv i wr => ∃ (k m : Nat) (s : Int), k ≤ n ∧ i = .int .i64 k ∧ sv = .int .i64 s ∧ s + siz (es.drop k) = dd + siz es ∧ wr = w9.drewN m) (fun _ i _ => n - (intOf i).toNat)
        case atStart => exact ⟨0, 0, dd, Nat.zero_le _, rfl, rfl, by simp, rfl⟩
        case round =>
          obtain ⟨k, m, s, hk, rfl, rfl, hs, rfl⟩ := hrel
          have hbd := siz_drop_bd HX.out.2.2.2.2.2.2.1 (Nat.zero_le _) k
          have hbd0 := siz_drop_bd HX.out.2.2.2.2.2.2.1 (Nat.zero_le _) 0
          rw [List.drop_zero] at hbd0
          by_cases hlt : k < n
          · obtain rfl := haL (by omega)
            obtain rfl := haT (by omega)
            have hkl : k < es.length := by have := HN.out; omega
            have hc2 := hcL k hlt
            obtain ⟨u, hc3, hBu⟩ := hcT k hlt
            rw [getD_map _ es k (0, 0, []) _ hkl] at hc2 hBu
            have hva := valid_at HX.out.2.2.2.2.2.2.1 (Nat.zero_le _) k hkl
            have htl := tl_at_le es k hkl
            have hsd := siz_drop es k hkl
            obtain ⟨t, ht⟩ : ∃ t, (es.getD k (0, 0, [])).2.2 = t := ⟨_, rfl⟩
            obtain ⟨l, hl⟩ : ∃ l, (es.getD k (0, 0, [])).2.1 = l := ⟨_, rfl⟩
            rw [hl] at hc2 hva hsd
            rw [ht] at hBu htl hsd
            obtain ⟨aou, capu, hsh⟩ := hBu.shape
            subst hsh
            obtain ⟨s', hs'⟩ : ∃ s' : Int, s + (t.length - l) = s' := ⟨_, rfl⟩
            have hwr2 : IntKind.i64.wrap ((t.length : Int) - l) = (t.length : Int) - l := IntWalk.i64_in _ ⟨by omega, by omega⟩
            have hwr3 : IntKind.i64.wrap (s + ((t.length : Int) - l)) = s' := by rw [hs']; exact IntWalk.i64_in _ ⟨by omega, by omega⟩
            have HS : Hid (s' + siz (es.drop (k + 1)) = dd + siz es) := by show _ = _; omega
            have i0' : (0 : Int) ≤ (k : Int) := by omega
            have i1 : (k : Int) < (n : Int) := by omega
            clear hs hs' hbd hbd0 hsd hBu ht hl hcL hcT haL haT hva htl
            go_wp2_with fail
            go_quiet (fail)
            clear hwr2 hwr3 hc2 hc3
            go_wp2
            go_roundw
            case rel => exact ⟨k + 1, _, s', by omega, by go_num, rfl, HS.out, rfl⟩
            case measure => simp [intOf]; omega
          · have e : siz (es.drop k) = 0 := by rw [List.drop_eq_nil_of_le (by have := HN.out; omega)]; rfl
            obtain rfl : s = (L : Int) := by have := HX.out.2.2.2.2.2.2.2; omega
            have hKD : Keeps w9 (w9.drewN m) := fun _ _ _ h => h
            have D0 := HX.out.2.1.keep hKD
            have DA := HX.out.2.2.1.keep hKD
            have DL := HX.out.2.2.2.1.keep hKD
            have DT := HX.out.2.2.2.2.1.keep hKD
            have hvv : Valid z0.length 0 es := by rw [HD.out]; exact HX.out.2.2.2.2.2.2.1
            clear hs hbd hbd0 e hcL hcT haL haT hKD
            go_wp2_with fail
            refine (walk15 _ _ _ _ z0 es _ D0 DA DL DT hvv (by have := HD.out; omega) (by have := HN.out; omega) (by omega)).mono ?_
            rintro e w10 ⟨vn, rfl, Cn, Bn⟩
            have CO2 : IsB .u8 w10 (.slice aoO L capO) (spl z0 0 es) := (HX.out.1.keep (w' := w9.drewN m) (fun _ _ _ h => h)).below Bn
            have HB2 : Hid (Below w3.heap.size w3 w10) := (below_drewN HX.out.2.2.2.2.2.1 m).trans (Bn.mono HX.out.2.2.2.2.2.1.size)
            clear D0 DA DL DT hvv Bn
            go_wp2_with fail
            refine (same_yes _ _ _ _ CO2 Cn).mono ?_
            rintro e w12 ⟨rfl, hb'⟩
            have HC : Hid (Below w3.heap.size w3 w12) := HB2.out.trans (hb'.mono HB2.out.size)
            clear Cn CO2 hb'
            go_wp2
            go_ret
            exact ⟨rfl, HC.out⟩

end Go.Proofs.Qxb6000822aMods.fnSpliceMatchesByteWalk

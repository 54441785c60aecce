/-
  SEAT b6000822aM: the law 'undone by the reverse edits', walked.
-/
import Derived.Test.Qxb6000822aModsSplice
import Derived.Test.Qxb6000822aModsLaws
namespace Go.Proofs.Qxb6000822aMods.fnSpliceUndoneByReverseEdits
open Go.RowKit

theorem wrap_pos (n : Nat) (h : n ≤ 1000000000) : IntKind.i64.wrap (n : Int) = (n : Int) := by
  exact IntWalk.i64_in (n : Int) ⟨by omega, by omega⟩


theorem bck_drop (doc : List Int) (q p : Nat) (es : List Ed) (k : Nat) (hk : k < es.length) (B : List Ed) (h : bck doc q p (es.drop k) = B.drop k) :
    k < B.length ∧ B.getD k (0, 0, []) = (q + ((es.getD k (0, 0, [])).1 - p), (es.getD k (0, 0, [])).2.2.length, (doc.drop (es.getD k (0, 0, [])).1).take (es.getD k (0, 0, [])).2.1) ∧
      bck doc (q + ((es.getD k (0, 0, [])).1 - p) + (es.getD k (0, 0, [])).2.2.length) ((es.getD k (0, 0, [])).1 + (es.getD k (0, 0, [])).2.1) (es.drop (k + 1)) = B.drop (k + 1) := by
  have hkB : k < B.length := by
    have h1 := congrArg List.length h
    rw [bck_length] at h1
    simp only [List.length_drop] at h1
    omega
  rw [drop_cons es k hk, drop_cons B k hkB] at h
  simp only [bck, List.cons.injEq] at h
  exact ⟨hkB, h.1.symm, h.2⟩

set_option maxRecDepth 100000 in
set_option maxHeartbeats 3200000 in
theorem walk (v0 v1 v2 v3 : Value) (z0 z1 z2 : List Int) (ts : List (List Int)) (w : World) (H0 : IsB .u8 w v0 z0) (H1 : IsB .i64 w v1 z1) (H2 : IsB .i64 w v2 z2) (H3 : IsT w v3 ts) :
    Calls Trym.prog 4 #[v0, v1, v2, v3] w fun e w' => e = .returned (.bool true) ∧ Below w.heap.size w w' := by
  have hsh0 := H0.shape
  obtain ⟨ao0, cap0, rfl⟩ := hsh0
  have hsh1 := H1.shape
  obtain ⟨ao1, cap1, rfl⟩ := hsh1
  have hsh2 := H2.shape
  obtain ⟨ao2, cap2, rfl⟩ := hsh2
  have hsh3 := H3.shape
  obtain ⟨ao3, cap3, rfl⟩ := hsh3
  go_enter Trym.func4, Trym.ntmps4
  go_wp2_with fail
  refine (bytes16_any _ _ _ _ z0 z1 z2 ts _ H0 H1 H2 H3).mono ?_
  rintro e w1 ⟨r, rfl, hr, rfl⟩
  cases r with
  | false =>
    clear hr H0 H1 H2 H3
    go_wp2
    go_ret
    exact ⟨rfl, Below.refl _ _⟩
  | true =>
    obtain ⟨g0, g1, g2, g3, g4⟩ := hr rfl
    clear hr
    go_wp2_with fail
    refine (size_any _ _ _ _ z0 z1 z2 ts _ H0 H1 H2 H3 g0 g1 g2 g3 g4).mono ?_
    rintro e w2 ⟨r, rfl, rfl⟩
    by_cases hr : r ≤ 1048576 ∧ z0.length ≤ 65536 ∧ z1.length ≤ 4096 ∧ z2.length ≤ 4096 ∧ ts.length ≤ 4096
    case neg =>
      clear H0 H1 H2 H3 g4
      go_wp2_with fail
      all_goals first | (exfalso; omega) | (go_ret; exact ⟨rfl, Below.refl _ _⟩)
    case pos =>
      obtain ⟨g5, g6, g7, g8, g9⟩ := hr
      go_wp2_with fail
      refine (valid_any z0.length _ _ _ z1 z2 ts _ H1 H2 H3 g0 g1 g2 g3).mono ?_
      rintro e w3 ⟨r, rfl, hr, rfl⟩
      cases r with
      | false =>
        clear hr H0 H1 H2 H3
        go_wp2
        go_ret
        exact ⟨rfl, Below.refl _ _⟩
      | true =>
        obtain ⟨el1, el2, hvI⟩ := hr rfl
        obtain ⟨es, rfl, rfl, rfl, hv⟩ := eds_of el1 el2 (p := 0) hvI
        rw [totL_eds] at g4
        simp only [List.length_map] at g1 g7 H1 H2 H3 ⊢
        have hts : ∀ i, i < (es.map fun e => e.2.2).length → ((es.map fun e => e.2.2).getD i []).length ≤ 1099511627776 := by
          intro i hi
          rw [List.length_map] at hi
          rw [getD_map _ es i (0, 0, []) _ hi]
          have := tl_at_le es i hi
          omega
        clear hr el1 el2 hvI g2 g3 g5 g8 g9
        go_wp2_with fail
        refine (cloneBytes_any _ z0 _ H0 (by omega)).mono ?_
        rintro e w4 ⟨c0, rfl, C0, B0⟩
        clear H0
        go_wp2_with fail
        refine (cloneInts_any _ _ _ (H1.below B0) (by rw [List.length_map]; omega)).mono ?_
        rintro e w5 ⟨c1, rfl, C1, B1⟩
        clear H1
        go_wp2_with fail
        refine (cloneInts_any _ _ _ ((H2.below B0).below B1) (by rw [List.length_map]; omega)).mono ?_
        rintro e w6 ⟨c2, rfl, C2, B2⟩
        clear H2
        go_wp2_with fail
        refine (cloneTexts_any _ _ _ (((H3.below B0).below B1).below B2) (by rw [List.length_map]; omega) hts).mono ?_
        rintro e w7 ⟨c3, rfl, C3, B3⟩
        clear H3 hts
        replace C0 := ((C0.below B1).below B2).below B3
        replace C1 := (C1.below B2).below B3
        replace C2 := C2.below B3
        have BA : Below w3.heap.size w3 w7 := ((B0.trans (B1.mono B0.size)).trans (B2.mono (Nat.le_trans B0.size B1.size))).trans (B3.mono (Nat.le_trans (Nat.le_trans B0.size B1.size) B2.size))
        clear B0 B1 B2 B3
        go_wp2_with fail
        refine (edits_any c1 c2 c3 es _ C1 C2 C3 g1).mono ?_
        rintro e w8 ⟨ve, rfl, CE, B4⟩
        replace C0 := C0.below B4
        replace C1 := C1.below B4
        replace C2 := C2.below B4
        replace C3 := C3.below B4
        replace BA := BA.trans (B4.mono BA.size)
        clear B4
        go_wp2_with fail
        refine (zzsplice_any c0 ve z0 es _ C0 CE hv (by omega) g1 (by omega)).mono ?_
        rintro e w9 ⟨vo, rfl, CO, B5⟩
        replace C0 := C0.below B5
        replace C1 := C1.below B5
        replace C2 := C2.below B5
        replace C3 := C3.below B5
        replace CE := CE.below B5
        replace BA := BA.trans (B5.mono BA.size)
        clear B5
        obtain ⟨ao5, cap5, hsh5⟩ := C0.shape
        obtain ⟨aoA, capA, hshA⟩ := C1.shape
        obtain ⟨aoL, capL, hshL⟩ := C2.shape
        obtain ⟨aoT, capT, hshT⟩ := C3.shape
        obtain ⟨n, hn⟩ : ∃ n, es.length = n := ⟨_, rfl⟩
        obtain ⟨dd, hdd⟩ : ∃ n, z0.length = n := ⟨_, rfl⟩
        have HN : Hid (es.length = n) := hn
        have HD : Hid (z0.length = dd) := hdd
        rw [List.length_map] at hshA hshL hshT
        subst hshA hshL hshT hsh5
        rw [hn] at g1 g7 C1 C2 C3 ⊢
        have hspl := spl_length hv (Nat.zero_le _)
        have hbd := siz_drop_bd hv (Nat.zero_le _) 0
        rw [hdd] at g0 g6 C0 hv ⊢ hspl hbd
        rw [List.drop_zero] at hbd
        have hoL : (spl z0 0 es).length ≤ 2097152 := by omega
        have hund := bck_undo (doc := z0) (out := spl z0 0 es) (p := 0) (q := 0) (by rw [hdd]; exact hv) (Nat.zero_le _) (Nat.zero_le _) (by rw [List.drop_zero])
        have hbl := bck_length z0 es 0 0
        have hbt := bck_tl z0 (q := 0) (p := 0) (by rw [hdd]; exact hv) (Nat.zero_le _)
        rw [hdd] at hbt
        rw [hn] at hbl
        obtain ⟨B, hB⟩ : ∃ B, bck z0 0 0 es = B := ⟨_, rfl⟩
        rw [hB] at hund hbl hbt
        obtain ⟨O, hO⟩ : ∃ O, spl z0 0 es = O := ⟨_, rfl⟩
        rw [hO] at hund hoL CO
        have hC0 := C0
        obtain ⟨ao5', b5, off5, cap5', hv5, hl5, hm5, hn5, ha5, hc5⟩ := C0
        simp only [Value.slice.injEq] at hv5
        obtain ⟨rfl, hq5, rfl⟩ := hv5
        clear hq5
        obtain ⟨aoA', bA, offA, capA', hvA, hlA, hmA, hnA, haA, hcA⟩ := C1
        simp only [Value.slice.injEq] at hvA
        obtain ⟨rfl, hqA, rfl⟩ := hvA
        clear hqA
        obtain ⟨aoL', bL, offL, capL', hvL, hlL, hmL, hnL, haL, hcL⟩ := C2
        simp only [Value.slice.injEq] at hvL
        obtain ⟨rfl, hqL, rfl⟩ := hvL
        clear hqL
        obtain ⟨aoT', bT, offT, capT', hvT, hlT, hmT, hnT, haT, hcT⟩ := C3
        simp only [Value.slice.injEq] at hvT
        obtain ⟨rfl, hqT, rfl⟩ := hvT
        clear hqT
        rw [List.length_map, hn] at hlA hlL hlT haA haL haT hcA hcL hcT
        rw [hdd] at hl5
        unfold maxLen at hm5
        have HX : Hid (IsB .u8 w9 vo O ∧ IsB .u8 w9 (.slice ao5 dd cap5) z0 ∧ Below w3.heap.size w3 w9 ∧ Valid dd 0 es ∧ spl O 0 B = z0 ∧ Valid O.length 0 B) := ⟨CO, hC0, BA, hv, by simpa using hund.1, hund.2⟩
        have HB : Hid (bck z0 0 0 es = B) := hB
        have HO : Hid (spl z0 0 es = O) := hO
        clear CO CE BA hv hund hC0 hB hO ha5 hc5 hn5 hnA hnL hnT hmA hmL hmT hlA hlL hlT hspl hbd hdd hn
        obtain ⟨i0, hi, hz0, hz1, hz2⟩ := info_parts Trym.info37
        go_wp2_with (at_make; refine wpList_make_own _ rfl _ _ 32 rfl w9.heap.size 37 i0 (.agg #[.int .i64 0, .int .i64 0, .slice none 0 0]) 3 Trym.underlying32 hi hz0 hz1 _ _ _ n rfl rfl (by omega) ?b1 ?b2 ?b3 ?_)
        case b1 => rw [hz2]; omega
        case b2 => unfold maxLen; omega
        case b3 => exact Nat.le_refl _
        intro w10 hown hgrow
        have hb1 : Below w9.heap.size w9 w10 := (Below.refl _ _).grown hgrow (Nat.le_refl _) (fun k h => by cases h)
        clear hgrow
        go_wp2
        go_loopw [10, 11, 12] (fun bv dv i wr => ∃ (k q p : Nat) (xs : List Value), k ≤ n ∧ i = .int .i64 k ∧ dv = .int .i64 ((q : Int) - p) ∧ bv = .slice (some ⟨w9.heap.size, 0, none⟩) k n ∧
            wr.ownsRow w9.heap.size 37 3 (.slice (some ⟨w9.heap.size, 0, none⟩) k n) k xs ∧ RowE w9 B k xs ∧ bck z0 q p (es.drop k) = B.drop k ∧ Valid dd p (es.drop k) ∧ p ≤ dd ∧ q + (spl z0 p (es.drop k)).length = O.length ∧ Below w9.heap.size w9 wr)
          (fun _ _ i _ => n - (intOf i).toNat)
        case atStart => exact ⟨0, 0, 0, [], Nat.zero_le _, rfl, rfl, rfl, hown, fun j h => absurd h (by omega), by rw [HB.out.symm]; rfl, by simpa using HX.out.2.2.2.1, Nat.zero_le _, by rw [← HO.out]; simp, hb1⟩
        case round =>
          obtain ⟨k, q, p, xs, hk, rfl, rfl, rfl, hownk, hrow, hbk, hvk, hp, hql, hb⟩ := hrel
          clear hown hb1
          by_cases hlt : k < n
          · obtain rfl := haA (by omega)
            obtain rfl := haL (by omega)
            obtain rfl := haT (by omega)
            have hkl : k < es.length := by have := HN.out; omega
            have hc1 := hcA k hlt
            have hc2 := hcL k hlt
            obtain ⟨u, hc3, hBu⟩ := hcT k hlt
            rw [getD_map _ es k (0, 0, []) _ hkl] at hc1 hc2 hBu
            obtain ⟨hkB, hBk, hBr⟩ := bck_drop z0 q p es k hkl B hbk
            obtain ⟨hv1, hv2, hv3⟩ := valid_drop hkl hvk
            rw [spl_drop z0 p es k hkl] at hql
            have htl := tl_at_le es k hkl
            obtain ⟨t, ht⟩ : ∃ t, (es.getD k (0, 0, [])).2.2 = t := ⟨_, rfl⟩
            obtain ⟨a, ha⟩ : ∃ a, (es.getD k (0, 0, [])).1 = a := ⟨_, rfl⟩
            obtain ⟨l, hl⟩ : ∃ l, (es.getD k (0, 0, [])).2.1 = l := ⟨_, rfl⟩
            rw [ha] at hc1 hv1 hv2 hv3 hql hBk hBr
            rw [hl] at hc2 hv2 hv3 hql hBk hBr
            rw [ht] at hBu hql hBk hBr htl
            have hsub := HX.out.2.1.sub a (a + l) (Nat.le_add_right _ _) (by rw [HD.out]; exact hv2)
            rw [show a + l - a = l by omega] at hsub
            obtain ⟨X, hX⟩ : ∃ X, (z0.drop a).take l = X := ⟨_, rfl⟩
            obtain ⟨aop, haop⟩ : ∃ x, (if cap5 = a then ao5 else ao5.map (·.add (a * 1))) = x := ⟨_, rfl⟩
            rw [hX] at hsub hBk
            rw [haop] at hsub
            have hsl : ∀ wx, (Instr.slice 22 (.slice ao5 dd cap5) (some (.int .i64 a)) (some (.int .i64 ((a : Int) + l))) none).run Trym.prog wx = .ok (.slice aop l (cap5 - a)) wx := by
              intro wx
              rw [run_slice_lh (P := Trym.prog) wx 22 ao5 dd cap5 Trym.underlying22 .i64 .i64 a ((a : Int) + l) (by omega) (by omega) (by omega), size22 wx]
              simp only [Result.andThen, sliced, Int.toNat_natCast]
              rw [haop, show ((a : Int) + l).toNat - a = l by omega]
            have hsn := hrow.snoc (by have := hownk.1; omega) (.slice aop l (cap5 - a)) (by rw [hBk]; exact hsub)
            rw [hBk] at hsn
            obtain ⟨pos, hpos⟩ : ∃ x, q + (a - p) = x := ⟨_, rfl⟩
            rw [hpos] at hsn hBr
            simp only [List.length_append, List.length_take, List.length_drop] at hql
            rw [HD.out] at hql
            have hpp : (a : Int) + ((q : Int) - p) = (pos : Int) := by omega
            have hqb : q ≤ 2097152 := by omega
            obtain ⟨aou, capu, hsh⟩ := hBu.shape
            subst hsh
            have hd1 : wr.cell? ⟨bA, offA + k, none⟩ = some (.int .i64 a) := (hb.cell (p := ⟨bA, offA + k, none⟩) (World.block_lt_of_cell? w9 _ hc1)).trans hc1
            have hd2 : wr.cell? ⟨bL, offL + k, none⟩ = some (.int .i64 l) := (hb.cell (p := ⟨bL, offL + k, none⟩) (World.block_lt_of_cell? w9 _ hc2)).trans hc2
            have hd3 : wr.cell? ⟨bT, offT + k, none⟩ = some (.slice aou t.length capu) := (hb.cell (p := ⟨bT, offT + k, none⟩) (World.block_lt_of_cell? w9 _ hc3)).trans hc3
            have hlt1 := World.block_lt_of_cell? w9 _ hc1
            have hlt2 := World.block_lt_of_cell? w9 _ hc2
            have hlt3 := World.block_lt_of_cell? w9 _ hc3
            have hsz : w9.heap.size < wr.heap.size := (hownk.lt _ rfl).2
            have HA : Hid _ := And.intro hsn hb
            have HP : Hid _ := And.intro hBr (And.intro hv3 (And.intro hpos hql))
            have hwr : IntKind.i64.wrap ((a : Int) + ((q : Int) - p)) = (pos : Int) := by rw [hpp]; exact wrap_pos pos (by omega)
            have i0' : (0 : Int) ≤ (k : Int) := by omega
            have i1 : (k : Int) < (n : Int) := by omega
            have i2 : (0 : Int) ≤ (a : Int) := by omega
            have i3 : (a : Int) + l ≤ cap5 := by omega
            have i4 : (a : Int) ≤ (a : Int) + l := by omega
            clear hsn hb hrow hBu ha hl ht hc1 hc2 hc3 hcA hcL hcT haA haL haT hbk hvk hBr hBk hX haop hsub hpos hpp hv3 hql hkB
            go_wp2_with fail
            go_quiet (fail)
            clear hsl
            go_wp2_with fail
            go_region_held3 (fun w' => w'.cell? ⟨bA, offA + k, none⟩ = some (.int .i64 a) ∧ w'.cell? ⟨bT, offT + k, none⟩ = some (.slice aou t.length capu))
              (first | go_keep | (go_split_ands; refine ⟨?_, ?_⟩ <;> (rw [hgr.cell_far _ (by simp; omega) (by simp; omega)]; go_keep)))
              (first
                | (go_at_call 17; refine (makeEdit_any _ _ _ _ _ _).mono ?_; rintro e w' ⟨rfl, rfl⟩)
                | (refine step_append_fits (by rfl) _ _ _ (by rfl) w9.heap.size 37 i0 3 Trym.underlying32 hi hz1 w9.heap.size k n xs (by rfl) (by exact (hownk.alloc _).alloc _) (some ⟨wr.heap.size + 1, 0, none⟩) 1 1 [.int .i64 (pos : Int), .int .i64 t.length, .slice aop l (cap5 - a)] (by rfl) (by rfl) (by intro h; cases h) (by exact news_at (cs := #[.int .i64 (pos : Int), .int .i64 t.length, .slice aop l (cap5 - a)]) (t := 37) (fr := (0, 0)) (heap_two_new (wr.drewN (nq + 1)) _ _)) (by simp [Value.oneCell']) (by omega) ?_; intro w11 hown2 hgr))
            have hlo : ∀ b o v, wr.cell? ⟨b, o, none⟩ = some v → b < w9.heap.size → w11.cell? ⟨b, o, none⟩ = some v := by
              intro b o v hv hlt
              rw [hgr.cell_far _ (by simp; omega) (by simp; omega), World.cell?_alloc_past _ _ _ (by simp; omega), World.cell?_alloc_past _ _ _ (by simp; omega)]
              exact hv
            have f2 := hlo _ _ _ hd2 hlt2
            have f3 := hlo _ _ _ hd3 hlt3
            have hbw : Below w9.heap.size w9 w11 := ((below_drewN HA.out.2 (nq + 1)).alloc (by simp; omega) _).alloc (by simp; omega) _ |>.grown (row := some w9.heap.size) hgr (by simp; omega) (fun j h => by have := Option.some.inj h; omega)
            have R : Hid _ := And.intro hown2 (And.intro HA.out.1 hbw)
            have hhp := HP.out.2.2.1
            have hdv : (q : Int) - p + (t.length - l) = ((pos + t.length : Nat) : Int) - ((a + l : Nat) : Int) := by omega
            have HDV : Hid _ := hdv
            have hwr2 : IntKind.i64.wrap ((t.length : Int) - l) = (t.length : Int) - l := IntWalk.i64_in _ ⟨by omega, by omega⟩
            have hwr3 : IntKind.i64.wrap ((q : Int) - p + ((t.length : Int) - l)) = ((pos + t.length : Nat) : Int) - ((a + l : Nat) : Int) := by
              rw [hdv]; exact IntWalk.i64_in _ ⟨by omega, by omega⟩
            clear hdv hhp hlo hgr hown2 hbw hd1 hd2 hd3 hownk HA hwr
            go_wp2_with fail
            go_quiet (fail)
            clear hwr2 hwr3 f2 f3
            go_wp2
            go_roundw
            case rel => exact ⟨k + 1, pos + t.length, a + l, _, by omega, by go_num, by go_num, rfl, R.out.1, R.out.2.1, HP.out.1, HP.out.2.1, hv2, by have h1 := HP.out.2.2.1; have h2 := HP.out.2.2.2; omega, below_drewN R.out.2.2 _⟩
            case measure => simp [intOf]; omega
          · obtain rfl : k = n := by omega
            have hE : IsE wr (.slice (some ⟨w9.heap.size, 0, none⟩) k k) B := isE_of_own hownk hbl hrow hb
            have hO2 : IsB .u8 wr vo O := HX.out.1.below hb
            have HV : Hid _ := And.intro hb (HX.out.2.1.below hb)
            have hvB := HX.out.2.2.2.2.2
            clear hownk hrow hb hbk hvk hql hcA hcL hcT haA haL haT
            go_wp2_with fail
            refine (zzsplice_any _ _ O B _ hO2 hE hvB (by omega) (by omega) (by omega)).mono ?_
            rintro e w11 ⟨vn, rfl, Cn, Bn⟩
            rw [HX.out.2.2.2.2.1] at Cn
            have Cd : IsB .u8 w11 (.slice ao5 dd cap5) z0 := HV.out.2.below Bn
            have HB2 : Hid (Below w3.heap.size w3 w11) := (HX.out.2.2.1.trans (HV.out.1.mono HX.out.2.2.1.size)).trans (Bn.mono (Nat.le_trans HX.out.2.2.1.size HV.out.1.size))
            clear hE hO2 Bn hvB
            go_wp2_with fail
            refine (same_yes _ _ _ _ Cn Cd).mono ?_
            rintro e w12 ⟨rfl, hb'⟩
            have HC : Hid (Below w3.heap.size w3 w12) := HB2.out.trans (hb'.mono HB2.out.size)
            clear Cn Cd hb'
            go_wp2
            go_ret
            exact ⟨rfl, HC.out⟩

end Go.Proofs.Qxb6000822aMods.fnSpliceUndoneByReverseEdits

/-
  SEAT b6001239aM: the law 'one edit', walked.
-/
import Derived.Test.Qxb6001239aModsOne
import Derived.Deep.AppendLies
namespace Go.Proofs.Qxb6001239aMods.fnEditDistanceOneEdit
open Go.RowKit
theorem Trym.info21 : (Trym.prog.info? 21).map (fun i => (i.zero, i.size, i.bytes)) = some (some (.int .i32 0), 1, 4) := by kernel_rfl

/-- The runes of a, in their block. -/
def XR (w : World) (bx n : Nat) (xs : List Int) : Prop := ∀ k, k < n → w.cell? ⟨bx, k, none⟩ = some (.int .i32 (xs.getD k 0))

theorem take_map_snoc' (f : Int → Value) (zs : List Int) (k : Nat) (hk : k < zs.length) : (zs.take k).map f ++ [f (zs.getD k 0)] = (zs.take (k + 1)).map f := by
  rw [List.take_succ_eq_append_getElem hk, List.map_append]
  simp only [List.getD, List.getElem?_eq_getElem hk, Option.getD_some, List.map_cons, List.map_nil]

theorem drop_map_snoc (xs : List Int) (t s : Nat) (c : Int) (hts : t ≤ s) (hs : s < xs.length) :
    (xs.take t ++ c :: (xs.drop t).take (s - t)).map (Value.int .i32) ++ [.int .i32 (xs.getD s 0)] = (xs.take t ++ c :: (xs.drop t).take (s + 1 - t)).map (Value.int .i32) := by
  have hl : s - t < (xs.drop t).length := by rw [List.length_drop]; omega
  have e : (xs.drop t).take (s + 1 - t) = (xs.drop t).take (s - t) ++ [xs.getD s 0] := by
    rw [show s + 1 - t = (s - t) + 1 by omega, List.take_succ_eq_append_getElem hl]
    congr 2
    rw [List.getElem_drop]
    simp only [List.getD, show t + (s - t) = s by omega, List.getElem?_eq_getElem hs, Option.getD_some]
  rw [e]
  simp

theorem ins_full (xs : List Int) (t s : Nat) (c : Int) (hs : xs.length = s) : xs.take t ++ c :: (xs.drop t).take (s - t) = insAt xs t c := by
  have e : (xs.drop t).take (s - t) = xs.drop t := List.take_of_length_le (by rw [List.length_drop]; omega)
  unfold insAt
  rw [e]


theorem set_fill' (us : List Value) (z v : Value) (n k : Nat) (h : us.length = k) (hk : k < n) : (us ++ List.replicate (n - k) z).set k v = (us ++ [v]) ++ List.replicate (n - (k + 1)) z := by
  obtain ⟨m, hm⟩ : ∃ m, n - k = m + 1 := ⟨n - k - 1, by omega⟩
  have hm' : n - (k + 1) = m := by omega
  rw [hm, hm', List.replicate_succ, List.set_append_right _ _ (by omega)]
  simp [h]

theorem map_at (L : List Int) (i : Nat) (h : i < L.length) : (L.map (Value.int .i32))[i]? = some (.int .i32 (L.getD i 0)) := by
  simp [List.getD, h]

theorem map_set' (xs : List Int) (q : Nat) (c : Int) : (xs.map (Value.int .i32)).set q (.int .i32 c) = (xs.set q c).map (Value.int .i32) := by
  rw [List.map_set]

set_option maxRecDepth 100000 in
set_option maxHeartbeats 3200000 in
theorem walkO (a : ByteArray) (k r : Int) (ha0 : a.size ≤ maxLen) (w : World) :
    Calls Trym.prog 5 #[.string a, .int .i64 k, .int .i32 r] w fun e w' => e = .returned (.bool true) ∧ Below w.heap.size w w' := by
  by_cases ha : a.size ≤ 4096
  case neg =>
    go_enter Trym.func5, Trym.ntmps5
    go_wp2_with fail
    refine (bytes13_any a k r _ ha0).mono ?_
    rintro e w1 ⟨q, rfl, rfl⟩
    cases q
    all_goals
      go_wp2_with fail
      all_goals first | (exfalso; omega) | (go_ret; exact ⟨rfl, Below.refl _ _⟩)
  case pos =>
    go_enter Trym.func5, Trym.ntmps5
    go_wp2_with fail
    refine (bytes13_any a k r _ ha0).mono ?_
    rintro e w1 ⟨q, rfl, rfl⟩
    cases q with
    | false =>
      go_wp2_with fail
      go_ret
      exact ⟨rfl, Below.refl _ _⟩
    | true =>
      obtain ⟨capx, csx, hrx, hcx, hlx⟩ := run_runes w1 a (by omega)
      have hnx := runesOf_le a
      have hxv := runesOf_valid a
      obtain ⟨xs, hxs⟩ : ∃ xs, runesOf a = xs := ⟨_, rfl⟩
      rw [hxs] at hrx hcx hlx hnx hxv
      obtain ⟨n, hn⟩ : ∃ n, xs.length = n := ⟨_, rfl⟩
      rw [hn] at hrx hcx hlx hnx
      have hcv := vrune_valid r
      obtain ⟨c, hc⟩ : ∃ c, vrune r = c := ⟨_, rfl⟩
      rw [hc] at hcv
      have HG : Hid (runesOf a = xs ∧ xs.length = n ∧ (∀ z ∈ xs, Utf8.valid z = true) ∧ Utf8.valid c = true) := ⟨hxs, hn, hxv, hcv⟩
      have HV : Hid (∀ wx, Calls Trym.prog 14 #[.int .i32 r] wx fun e w' => e = .returned (.int .i32 c) ∧ w' = wx) := fun wx => by
        have := vrune_any r wx; rw [hc] at this; exact this
      have HK : Hid (∀ j, j < n → csx[j]? = some (.int .i32 (xs.getD j 0))) := hcx
      have htm := tmod_range k ((n : Int) + 1) (by omega)
      obtain ⟨P0, hP0⟩ : ∃ z, k.tmod ((n : Int) + 1) = z := ⟨_, rfl⟩
      rw [hP0] at htm
      clear hcx hxs hn hxv hcv hc
      go_wp2_with fail
      refine (HV.out _).mono ?_
      rintro e w2 ⟨rfl, rfl⟩
      clear HV hrx
      go_upto_if 44 with fail
      go_cut [10] (fun pv wc => ∃ p : Nat, p ≤ n ∧ pv = .int .i64 p ∧ XR wc w1.heap.size n xs ∧ w1.heap.size < wc.heap.size ∧ Below w1.heap.size w1 wc)
      case first =>
        have hxr : XR (w1.alloc (.cells csx 21)).drew w1.heap.size n xs := fun j hj => by
          show (w1.alloc (.cells csx 21)).cell? ⟨w1.heap.size, j, none⟩ = _
          rw [World.cell?_alloc_at _ _ _ _ rfl]
          exact HK.out j hj
        have HX : Hid _ := hxr
        clear hxr
        by_cases hneg : P0 < 0
        · go_wp2_with fail
          go_meet
          exact ⟨(P0 + (n + 1)).toNat, by omega, by go_num, HX.out, by simp, (Below.refl _ _).alloc (Nat.le_refl _) _ |>.drew⟩
        · go_wp2_with fail
          go_meet
          exact ⟨P0.toNat, by omega, by go_num, HX.out, by simp, (Below.refl _ _).alloc (Nat.le_refl _) _ |>.drew⟩
      case rest =>
        obtain ⟨p, hp, rfl, hxr, hsz, hbel⟩ := hcut
        clear HK htm hP0 hlx
        obtain ⟨i0, hi, hz0, hz1, hz2⟩ := info_parts Trym.info21
        obtain ⟨bx, hbx⟩ : ∃ b, w1.heap.size = b := ⟨_, rfl⟩
        have HB : Hid (Below w1.heap.size w1 wc) := hbel
        rw [hbx] at hxr hsz ⊢
        clear hbel hbx
        have HX : Hid (XR wc bx n xs) := hxr
        clear hxr
        go_wp2_with (at_make; refine wpList_make_own _ rfl _ _ 24 rfl wc.heap.size 21 i0 (.int .i32 0) 1 Trym.underlying24 hi hz0 hz1 _ _ _ (n + 1) rfl rfl (by omega) ?b1 ?b2 ?b3 ?_)
        case b1 => rw [hz2]; omega
        case b2 => unfold maxLen; omega
        case b3 => exact Nat.le_refl _
        intro w2 hown hgrow
        have hb1 : Below wc.heap.size wc w2 := (Below.refl _ _).grown hgrow (Nat.le_refl _) (fun k h => by cases h)
        clear hgrow
        go_wp2
        go_loopw [11, 12] (fun v i wr => ∃ t : Nat, t ≤ p ∧ i = .int .i64 t ∧ v = .slice (some ⟨wc.heap.size, 0, none⟩) t (n + 1) ∧ wr.ownsRow wc.heap.size 21 1 (.slice (some ⟨wc.heap.size, 0, none⟩) t (n + 1)) t ((xs.take t).map (Value.int .i32)) ∧ Below wc.heap.size wc wr)
          (fun _ i _ => p - (intOf i).toNat)
        case atStart => exact ⟨0, Nat.zero_le _, rfl, rfl, by simpa using hown, hb1⟩
        case round =>
          obtain ⟨t, ht, rfl, rfl, hownt, hb⟩ := hrel
          clear hown hb1
          by_cases hlt : t < p
          · obtain ⟨z, hz'⟩ : ∃ z, xs.getD t 0 = z := ⟨_, rfl⟩
            have hc0 := HX.out t (by omega)
            rw [hz'] at hc0
            have hcz : wr.cell? ⟨bx, t, none⟩ = some (.int .i32 z) := (hb.cell (p := ⟨bx, t, none⟩) hsz).trans hc0
            have hsn : (xs.take t).map (Value.int .i32) ++ [.int .i32 z] = (xs.take (t + 1)).map (Value.int .i32) := by
              rw [← hz']; exact take_map_snoc' _ xs t (by have := HG.out.2.1; omega)
            have HA : Hid _ := And.intro hb hsn
            have hbs := hb.size
            clear hb hsn hz' hc0
            go_wp2_with (at_builtin; refine wpList_append_fits _ rfl (.tmp 57) (.tmp 62) 24 rfl wc.heap.size 21 i0 1 Trym.underlying24 hi hz1 wc.heap.size t (n + 1) ((xs.take t).map (Value.int .i32)) rfl (hownt.alloc _) ⟨wr.heap.size, 0, none⟩ 1 1 [.int .i32 z] rfl rfl (cell_one_new _ _ _) (by simp [Value.oneCell']) (by omega) ?_)
            intro w3 hown3 hgr
            have R' : Hid (w3.ownsRow wc.heap.size 21 1 (.slice (some ⟨wc.heap.size, 0, none⟩) (t + 1) (n + 1)) (t + 1) ((xs.take (t + 1)).map (Value.int .i32)) ∧ Below wc.heap.size wc w3) :=
              ⟨by rw [← HA.out.2, List.map_take]; exact hown3, (HA.out.1.alloc hbs _).grown (row := some wc.heap.size) hgr (by simp; omega) (fun j h => by have := Option.some.inj h; omega)⟩
            clear hown3 hgr hownt hcz
            go_wp2
            go_roundw
            case rel => exact ⟨t + 1, by omega, by go_num, rfl, R'.out.1, R'.out.2⟩
            case measure => simp [intOf]; omega
          · obtain rfl : t = p := by omega
            have hbs := hb.size
            have HA : Hid _ := hb
            clear hb
            go_wp2_with (at_builtin; refine wpList_append_fits _ rfl (.tmp 64) (.tmp 66) 24 rfl wc.heap.size 21 i0 1 Trym.underlying24 hi hz1 wc.heap.size t (n + 1) ((xs.take t).map (Value.int .i32)) rfl (hownt.alloc _) ⟨wr.heap.size, 0, none⟩ 1 1 [.int .i32 c] rfl rfl (cell_one_new _ _ _) (by simp [Value.oneCell']) (by omega) ?_)
            intro w3 hown3 hgr
            have R' : Hid (w3.ownsRow wc.heap.size 21 1 (.slice (some ⟨wc.heap.size, 0, none⟩) (t + 1) (n + 1)) (t + 1) ((xs.take t ++ c :: (xs.drop t).take (t - t)).map (Value.int .i32)) ∧ Below wc.heap.size wc w3) :=
              ⟨by simpa using hown3, (HA.out.alloc hbs _).grown (row := some wc.heap.size) hgr (by simp; omega) (fun j h => by have := Option.some.inj h; omega)⟩
            clear hown3 hgr hownt HA hbs
            go_wp2
            go_loopw [11, 13] (fun v i wr => ∃ s : Nat, t ≤ s ∧ s ≤ n ∧ i = .int .i64 s ∧ v = .slice (some ⟨wc.heap.size, 0, none⟩) (s + 1) (n + 1) ∧ wr.ownsRow wc.heap.size 21 1 (.slice (some ⟨wc.heap.size, 0, none⟩) (s + 1) (n + 1)) (s + 1) ((xs.take t ++ c :: (xs.drop t).take (s - t)).map (Value.int .i32)) ∧ Below wc.heap.size wc wr)
              (fun _ i _ => n - (intOf i).toNat)
            case atStart => exact ⟨t, Nat.le_refl _, hp, rfl, rfl, R'.out.1, R'.out.2⟩
            case round =>
              obtain ⟨s, hts, hsn', rfl, rfl, howns, hb⟩ := hrel
              clear R'
              by_cases hsl : s < n
              · obtain ⟨z, hz'⟩ : ∃ z, xs.getD s 0 = z := ⟨_, rfl⟩
                have hc0 := HX.out s (by omega)
                rw [hz'] at hc0
                have hcz : wr.cell? ⟨bx, s, none⟩ = some (.int .i32 z) := (hb.cell (p := ⟨bx, s, none⟩) hsz).trans hc0
                have hsn : (xs.take t ++ c :: (xs.drop t).take (s - t)).map (Value.int .i32) ++ [.int .i32 z] = (xs.take t ++ c :: (xs.drop t).take (s + 1 - t)).map (Value.int .i32) := by
                  rw [← hz']; exact drop_map_snoc xs t s c hts (by have := HG.out.2.1; omega)
                have HA : Hid _ := And.intro hb hsn
                have hbs := hb.size
                obtain ⟨L, hL⟩ : ∃ L, (xs.take t ++ c :: (xs.drop t).take (s - t)).map (Value.int .i32) = L := ⟨_, rfl⟩
                have HL : Hid _ := hL
                rw [hL] at howns
                clear hb hsn hz' hc0 hL
                go_wp2_with (at_builtin; refine wpList_append_fits _ rfl (.tmp 74) (.tmp 79) 24 rfl wc.heap.size 21 i0 1 Trym.underlying24 hi hz1 wc.heap.size (s + 1) (n + 1) L rfl (howns.alloc _) ⟨wr.heap.size, 0, none⟩ 1 1 [.int .i32 z] rfl rfl (cell_one_new _ _ _) (by simp [Value.oneCell']) (by omega) ?_)
                intro w4 hown4 hgr
                have R2 : Hid (w4.ownsRow wc.heap.size 21 1 (.slice (some ⟨wc.heap.size, 0, none⟩) (s + 1 + 1) (n + 1)) (s + 1 + 1) ((xs.take t ++ c :: (xs.drop t).take (s + 1 - t)).map (Value.int .i32)) ∧ Below wc.heap.size wc w4) :=
                  ⟨by rw [← HA.out.2, HL.out]; exact hown4, (HA.out.1.alloc hbs _).grown (row := some wc.heap.size) hgr (by simp; omega) (fun j h => by have := Option.some.inj h; omega)⟩
                clear hown4 hgr howns hcz
                go_wp2
                go_roundw
                case rel => exact ⟨s + 1, by omega, by omega, by go_num, rfl, R2.out.1, R2.out.2⟩
                case measure => simp [intOf]; omega
              · obtain rfl : s = n := by omega
                have hI := ins_full xs t s c HG.out.2.1
                rw [hI] at howns
                have hIl := insAt_length xs t c (by have := HG.out.2.1; omega)
                rw [HG.out.2.1] at hIl
                have hcells : ∀ j, j < (insAt xs t c).length → wr.cell? ((⟨wc.heap.size, 0, none⟩ : Addr).add j) = some (.int .i32 ((insAt xs t c).getD j 0)) := by
                  intro j hj
                  rw [Addr.add_lit, Nat.zero_add, howns.cellAt j (by omega)]
                  simp [List.getD, hj]
                have hcv := run_convert_runes (P := Trym.prog) wr 24 9 21 ⟨wc.heap.size, 0, none⟩ (s + 1) (s + 1) (insAt xs t c) (by omega) Trym.underlying24 Trym.underlying21 Trym.underlying9 hcells
                rw [List.take_of_length_le (by omega)] at hcv
                have hsb := runesBytes_size_le (insAt xs t c)
                have hrb := runesOf_bytes (insAt xs t c) (insAt_valid HG.out.2.2.1 HG.out.2.2.2)
                rw [hIl] at hsb
                obtain ⟨sI, hsI⟩ : ∃ b, runesBytes (insAt xs t c) = b := ⟨_, rfl⟩
                rw [hsI] at hcv hsb hrb
                have hd1 := dist_ins xs t c (by have := HG.out.2.1; omega)
                have hd2 := dist_del xs t c (by have := HG.out.2.1; omega)
                have HC1 : Hid (∀ wx, Calls Trym.prog 10 #[.string a, .string sI] wx fun e w' => e = .returned (.int .i64 1) ∧ Below wx.heap.size wx w') := fun wx => by
                  have h := zz_any a sI wx (by omega) (by omega)
                  rw [HG.out.1, hrb, hd1] at h
                  exact h
                have HC2 : Hid (∀ wx, Calls Trym.prog 10 #[.string sI, .string a] wx fun e w' => e = .returned (.int .i64 1) ∧ Below wx.heap.size wx w') := fun wx => by
                  have h := zz_any sI a wx (by omega) (by omega)
                  rw [HG.out.1, hrb, hd2] at h
                  exact h
                have HA : Hid _ := hb
                clear hb howns hcells hI hIl hrb hsI hd1 hd2 hsb
                go_wp2_with fail
                refine (HC1.out _).mono ?_
                rintro e w4 ⟨rfl, hb4⟩
                replace HA : Hid (Below wc.heap.size wc w4) := HA.out.trans (hb4.mono HA.out.size)
                clear hb4 hcv
                go_wp2_with fail
                refine (HC2.out _).mono ?_
                rintro e w5 ⟨rfl, hb5⟩
                replace HA : Hid (Below wc.heap.size wc w5) := HA.out.trans (hb5.mono HA.out.size)
                clear hb5 HC1 HC2
                have HX5 : Hid (XR w5 bx s xs) := fun j hj => (HA.out.cell (p := ⟨bx, j, none⟩) hsz).trans (HX.out j hj)
                have HB5 : Hid (Below w1.heap.size w1 w5) := HB.out.trans (HA.out.mono HB.out.size)
                have hsz5 : bx < w5.heap.size := by have := HA.out.size; omega
                clear HA HX HB hsz
                by_cases hn0 : 0 < s
                case neg =>
                  go_wp2
                  go_ret
                  exact ⟨rfl, HB5.out⟩
                case pos =>
                  have htm := tmod_range k (s : Int) (by omega)
                  obtain ⟨Q0, hQ0⟩ : ∃ z, k.tmod (s : Int) = z := ⟨_, rfl⟩
                  rw [hQ0] at htm
                  go_upto_if 97 with fail
                  go_cut [15] (fun pv wc => ∃ q : Nat, q < s ∧ pv = .int .i64 q ∧ wc = w5)
                  case first =>
                    by_cases hneg : Q0 < 0
                    · go_wp2_with fail
                      go_meet
                      exact ⟨(Q0 + s).toNat, by omega, by go_num, rfl⟩
                    · go_wp2_with fail
                      go_meet
                      exact ⟨Q0.toNat, by omega, by go_num, rfl⟩
                  case rest =>
                    obtain ⟨q, hq, rfl, rfl⟩ := hcut
                    obtain ⟨WS, hWS⟩ : ∃ W : World, W = wc := ⟨_, rfl⟩
                    subst hWS
                    clear htm hQ0
                    go_wp2_with (at_make; refine wpList_make_full _ rfl _ _ 24 rfl WS.heap.size 21 i0 (.int .i32 0) 1 Trym.underlying24 hi hz0 hz1 _ _ _ _ s rfl rfl (by omega) (by omega) ?b4 ?b5 ?b6 ?_)
                    case b4 => rw [hz2]; omega
                    case b5 => unfold maxLen; omega
                    case b6 => exact Nat.le_refl _
                    intro w6 hown hgrow
                    have hown1 : w6.ownsRow WS.heap.size 21 1 (.slice (some ⟨WS.heap.size, 0, none⟩) s s) s ((xs.take 0).map (Value.int .i32) ++ List.replicate (s - 0) (.int .i32 0)) := by
                      have e : (xs.take 0).map (Value.int .i32) ++ List.replicate (s - 0) (.int .i32 0) = (madeCells #[Value.int .i32 0] s).toList := by rw [toList_madeCells_one]; simp
                      rw [e]; exact hown
                    have hb1 : Below WS.heap.size WS w6 := (Below.refl _ _).grown hgrow (Nat.le_refl _) (fun k h => by cases h)
                    clear hown hgrow
                    go_wp2
                    go_loopw [17] (fun i wr => ∃ j : Nat, j ≤ s ∧ i = .int .i64 j ∧ wr.ownsRow WS.heap.size 21 1 (.slice (some ⟨WS.heap.size, 0, none⟩) s s) s ((xs.take j).map (Value.int .i32) ++ List.replicate (s - j) (.int .i32 0)) ∧ Below WS.heap.size WS wr)
                      (fun i _ => s - (intOf i).toNat)
                    case atStart => exact ⟨0, Nat.zero_le _, rfl, hown1, hb1⟩
                    case round =>
                      obtain ⟨j, hj, rfl, hownj, hb⟩ := hrel
                      clear hown1 hb1
                      by_cases hjl : j < s
                      · obtain ⟨z, hz'⟩ : ∃ z, xs.getD j 0 = z := ⟨_, rfl⟩
                        have hc0 := HX5.out j hjl
                        rw [hz'] at hc0
                        have hcz : wr.cell? ⟨bx, j, none⟩ = some (.int .i32 z) := (hb.cell (p := ⟨bx, j, none⟩) hsz5).trans hc0
                        obtain ⟨u, hu⟩ : ∃ u, ((xs.take j).map (Value.int .i32) ++ List.replicate (s - j) (.int .i32 0))[j]? = some u := ⟨_, List.getElem?_eq_getElem (by have := hownj.1; omega)⟩
                        have hcw : wr.cell? ⟨WS.heap.size, j, none⟩ = some u := (hownj.cellAt j (by omega)).trans hu
                        have hfz := hownj.frozenAt j
                        have R := hownj.stored j (.int .i32 z)
                        rw [set_fill' _ _ _ s j (by simp; have := HG.out.2.1; omega) hjl, ← hz', take_map_snoc' _ xs j (by have := HG.out.2.1; omega), hz'] at R
                        have R2 := hb.setCell (p := ⟨WS.heap.size, j, none⟩) (Nat.le_refl _) (.int .i32 z)
                        have R' : Hid _ := And.intro R.1 R2
                        clear R R2 hu hownj hb hz' hc0
                        go_wp2
                        go_roundw
                        case rel => exact ⟨j + 1, by omega, by go_num, R'.out.1, R'.out.2⟩
                        case measure => simp [intOf]; omega
                      · obtain rfl : j = s := by omega
                        have hfull : (xs.take j).map (Value.int .i32) ++ List.replicate (j - j) (.int .i32 0) = xs.map (Value.int .i32) := by
                          rw [List.take_of_length_le (Nat.le_of_eq HG.out.2.1)]; simp
                        rw [hfull] at hownj
                        have hcq := HX5.out q hq
                        obtain ⟨xq, hxq⟩ : ∃ z, xs.getD q 0 = z := ⟨_, rfl⟩
                        rw [hxq] at hcq
                        have HQ : Hid (xs.getD q 0 = xq) := hxq
                        clear hxq
                        have hgq : wr.cell? ⟨bx, q, none⟩ = some (.int .i32 xq) := (hb.cell (p := ⟨bx, q, none⟩) hsz5).trans hcq
                        obtain ⟨u, hu⟩ : ∃ u, (xs.map (Value.int .i32))[q]? = some u := ⟨_, List.getElem?_eq_getElem (by have := hownj.1; omega)⟩
                        have hcw : wr.cell? ⟨WS.heap.size, q, none⟩ = some u := (hownj.cellAt q (by omega)).trans hu
                        have hfz := hownj.frozenAt q
                        have R := hownj.stored q (.int .i32 c)
                        rw [map_set'] at R
                        have R2 := hb.setCell (p := ⟨WS.heap.size, q, none⟩) (Nat.le_refl _) (.int .i32 c)
                        obtain ⟨W7, hW7⟩ : ∃ W, wr.setCell ⟨WS.heap.size, q, none⟩ (.int .i32 c) = W := ⟨_, rfl⟩
                        rw [hW7] at R R2
                        have hgq7 : W7.cell? ⟨bx, q, none⟩ = some (.int .i32 xq) := (R2.cell (p := ⟨bx, q, none⟩) hsz5).trans hcq
                        have hset := hW7
                        clear hu hownj hb hcq hfull
                        go_upto_if 124 with fail
                        clear hW7 hset hgq hcw hfz hgq7
                        obtain ⟨wq, hwq⟩ : ∃ m : Nat, (if xq = c then 0 else 1) = m := ⟨_, rfl⟩
                        have HWQ : Hid ((if xq = c then 0 else 1) = wq) := hwq
                        clear hwq
                        go_cut [18] (fun v wc' => v = .int .i64 (wq : Int) ∧ wc' = W7)
                        case first =>
                          by_cases heq : xq = c
                          · have hbb : (xq == c) = true := by simpa using heq
                            have hw : wq = 0 := by have := HWQ.out; rw [if_pos heq] at this; exact this.symm
                            subst hw
                            clear heq
                            go_wp2_with fail
                            go_meet
                            exact ⟨rfl, rfl⟩
                          · have hbb : (xq == c) = false := by simpa using heq
                            have hw : wq = 1 := by have := HWQ.out; rw [if_neg heq] at this; exact this.symm
                            subst hw
                            clear heq
                            go_wp2_with fail
                            go_meet
                            exact ⟨rfl, rfl⟩
                        case rest =>
                          obtain ⟨rfl, rfl⟩ := hcut
                          have hSl : (xs.set q c).length = j := by rw [List.length_set]; exact HG.out.2.1
                          have hcells : ∀ i, i < (xs.set q c).length → wc.cell? ((⟨WS.heap.size, 0, none⟩ : Addr).add i) = some (.int .i32 ((xs.set q c).getD i 0)) := by
                            intro i hi'
                            rw [Addr.add_lit, Nat.zero_add, R.1.cellAt i (by omega)]
                            exact map_at _ i hi'
                          have hcv := run_convert_runes (P := Trym.prog) wc 24 9 21 ⟨WS.heap.size, 0, none⟩ j j (xs.set q c) (by omega) Trym.underlying24 Trym.underlying21 Trym.underlying9 hcells
                          rw [List.take_of_length_le (by omega)] at hcv
                          have hsb := runesBytes_size_le (xs.set q c)
                          have hrb := runesOf_bytes (xs.set q c) (set_valid HG.out.2.2.1 HG.out.2.2.2)
                          rw [hSl] at hsb
                          obtain ⟨sS, hsS⟩ : ∃ b, runesBytes (xs.set q c) = b := ⟨_, rfl⟩
                          rw [hsS] at hcv hsb hrb
                          have hd1 := dist_set xs q c (by have := HG.out.2.1; omega)
                          rw [HQ.out, HWQ.out] at hd1
                          have HC1 : Hid (∀ wx, Calls Trym.prog 10 #[.string a, .string sS] wx fun e w' => e = .returned (.int .i64 (wq : Int)) ∧ Below wx.heap.size wx w') := fun wx => by
                            have h := zz_any a sS wx (by omega) (by omega)
                            rw [HG.out.1, hrb, hd1] at h
                            exact h
                          have HA : Hid _ := R2
                          have hse : ((wq : Int) != (wq : Int)) = false := by simp
                          clear R R2 hcells hSl hrb hsS hd1 hsb HWQ
                          go_wp2_with fail
                          refine (HC1.out _).mono ?_
                          rintro e w8 ⟨rfl, hb8⟩
                          have HA8 : Hid (Below WS.heap.size WS w8) := HA.out.trans (hb8.mono HA.out.size)
                          have HX8 : Hid (XR w8 bx j xs) := fun i hi' => (HA8.out.cell (p := ⟨bx, i, none⟩) hsz5).trans (HX5.out i hi')
                          have HB8 : Hid (Below w1.heap.size w1 w8) := HB5.out.trans (HA8.out.mono HB5.out.size)
                          have hsz8 : bx < w8.heap.size := by have := HA8.out.size; omega
                          clear hb8 hcv HC1 HA HA8 HX5 HB5 hsz5
                          by_cases hn1 : 1 < j
                          case neg =>
                            go_wp2
                            go_ret
                            exact ⟨rfl, HB8.out⟩
                          case pos =>
                            clear hse
                            have htm3 := tmod_range k ((j : Int) - 1) (by omega)
                            obtain ⟨S0, hS0⟩ : ∃ z, k.tmod ((j : Int) - 1) = z := ⟨_, rfl⟩
                            rw [hS0] at htm3
                            go_upto_if 138 with fail
                            go_cut [19] (fun pv wc => ∃ s3 : Nat, s3 + 1 < j ∧ pv = .int .i64 s3 ∧ wc = w8)
                            case first =>
                              by_cases hneg : S0 < 0
                              · go_wp2_with fail
                                go_meet
                                exact ⟨(S0 + ((j : Int) - 1)).toNat, by omega, by go_num, rfl⟩
                              · go_wp2_with fail
                                go_meet
                                exact ⟨S0.toNat, by omega, by go_num, rfl⟩
                            case rest =>
                              obtain ⟨s3, hs3, rfl, rfl⟩ := hcut
                              obtain ⟨WT, hWT⟩ : ∃ W : World, W = wc := ⟨_, rfl⟩
                              subst hWT
                              clear htm3 hS0
                              go_wp2_with (at_make; refine wpList_make_full _ rfl _ _ 24 rfl WT.heap.size 21 i0 (.int .i32 0) 1 Trym.underlying24 hi hz0 hz1 _ _ _ _ j rfl rfl (by omega) (by omega) ?b7 ?b8 ?b9 ?_)
                              case b7 => rw [hz2]; omega
                              case b8 => unfold maxLen; omega
                              case b9 => exact Nat.le_refl _
                              intro w9 hown hgrow
                              have hown1 : w9.ownsRow WT.heap.size 21 1 (.slice (some ⟨WT.heap.size, 0, none⟩) j j) j ((xs.take 0).map (Value.int .i32) ++ List.replicate (j - 0) (.int .i32 0)) := by
                                have e : (xs.take 0).map (Value.int .i32) ++ List.replicate (j - 0) (.int .i32 0) = (madeCells #[Value.int .i32 0] j).toList := by rw [toList_madeCells_one]; simp
                                rw [e]; exact hown
                              have hb1 : Below WT.heap.size WT w9 := (Below.refl _ _).grown hgrow (Nat.le_refl _) (fun k h => by cases h)
                              clear hown hgrow
                              go_wp2
                              go_loopw [21] (fun i wr => ∃ m : Nat, m ≤ j ∧ i = .int .i64 m ∧ wr.ownsRow WT.heap.size 21 1 (.slice (some ⟨WT.heap.size, 0, none⟩) j j) j ((xs.take m).map (Value.int .i32) ++ List.replicate (j - m) (.int .i32 0)) ∧ Below WT.heap.size WT wr)
                                (fun i _ => j - (intOf i).toNat)
                              case atStart => exact ⟨0, Nat.zero_le _, rfl, hown1, hb1⟩
                              case round =>
                                obtain ⟨m, hm, rfl, hownj, hb⟩ := hrel
                                clear hown1 hb1
                                by_cases hml : m < j
                                · obtain ⟨z, hz'⟩ : ∃ z, xs.getD m 0 = z := ⟨_, rfl⟩
                                  have hc0 := HX8.out m hml
                                  rw [hz'] at hc0
                                  have hcz : wr.cell? ⟨bx, m, none⟩ = some (.int .i32 z) := (hb.cell (p := ⟨bx, m, none⟩) hsz8).trans hc0
                                  obtain ⟨u, hu⟩ : ∃ u, ((xs.take m).map (Value.int .i32) ++ List.replicate (j - m) (.int .i32 0))[m]? = some u := ⟨_, List.getElem?_eq_getElem (by have := hownj.1; omega)⟩
                                  have hcw : wr.cell? ⟨WT.heap.size, m, none⟩ = some u := (hownj.cellAt m (by omega)).trans hu
                                  have hfz := hownj.frozenAt m
                                  have R := hownj.stored m (.int .i32 z)
                                  rw [set_fill' _ _ _ j m (by simp; have := HG.out.2.1; omega) hml, ← hz', take_map_snoc' _ xs m (by have := HG.out.2.1; omega), hz'] at R
                                  have R2 := hb.setCell (p := ⟨WT.heap.size, m, none⟩) (Nat.le_refl _) (.int .i32 z)
                                  have R' : Hid _ := And.intro R.1 R2
                                  clear R R2 hu hownj hb hz' hc0
                                  go_wp2
                                  go_roundw
                                  case rel => exact ⟨m + 1, by omega, by go_num, R'.out.1, R'.out.2⟩
                                  case measure => simp [intOf]; omega
                                · obtain rfl : m = j := by omega
                                  have hfull : (xs.take m).map (Value.int .i32) ++ List.replicate (m - m) (.int .i32 0) = xs.map (Value.int .i32) := by
                                    rw [List.take_of_length_le (Nat.le_of_eq HG.out.2.1)]; simp
                                  rw [hfull] at hownj
                                  obtain ⟨lf, hlf⟩ : ∃ z, xs.getD s3 0 = z := ⟨_, rfl⟩
                                  obtain ⟨rt, hrt⟩ : ∃ z, xs.getD (s3 + 1) 0 = z := ⟨_, rfl⟩
                                  have HLR : Hid (xs.getD s3 0 = lf ∧ xs.getD (s3 + 1) 0 = rt) := ⟨hlf, hrt⟩
                                  have hcl : wr.cell? ⟨WT.heap.size, s3, none⟩ = some (.int .i32 lf) := by
                                    rw [hownj.cellAt s3 (by omega), map_at xs s3 (by have := HG.out.2.1; omega), hlf]
                                  have hcr : wr.cell? ⟨WT.heap.size, s3 + 1, none⟩ = some (.int .i32 rt) := by
                                    rw [hownj.cellAt (s3 + 1) (by omega), map_at xs (s3 + 1) (by have := HG.out.2.1; omega), hrt]
                                  have hfl := hownj.frozenAt s3
                                  have R := hownj.stored s3 (.int .i32 rt)
                                  rw [map_set'] at R
                                  have R2 := hb.setCell (p := ⟨WT.heap.size, s3, none⟩) (Nat.le_refl _) (.int .i32 rt)
                                  obtain ⟨Wa, hWa⟩ : ∃ W, wr.setCell ⟨WT.heap.size, s3, none⟩ (.int .i32 rt) = W := ⟨_, rfl⟩
                                  rw [hWa] at R R2
                                  have hcra : Wa.cell? ⟨WT.heap.size, s3 + 1, none⟩ = some (.int .i32 rt) := by
                                    rw [← hWa, World.cell?_setCell_other _ _ _ _ (by simp)]; exact hcr
                                  have hfr := R.1.frozenAt (s3 + 1)
                                  have R3 := R.1.stored (s3 + 1) (.int .i32 lf)
                                  rw [map_set'] at R3
                                  have R4 := R2.setCell (p := ⟨WT.heap.size, s3 + 1, none⟩) (Nat.le_refl _) (.int .i32 lf)
                                  obtain ⟨Wb, hWb⟩ : ∃ W, Wa.setCell ⟨WT.heap.size, s3 + 1, none⟩ (.int .i32 lf) = W := ⟨_, rfl⟩
                                  rw [hWb] at R3 R4
                                  have hsw : (xs.set s3 rt).set (s3 + 1) lf = swapAt xs s3 := by unfold swapAt; rw [hlf, hrt]
                                  rw [hsw] at R3
                                  clear hlf hrt hfull hsw R R2 hownj hb
                                  go_upto_if 177 with fail
                                  clear hWa hWb hcl hcr hcra hfl hfr
                                  obtain ⟨wq3, hwq⟩ : ∃ m : Nat, (if lf = rt then 0 else 1) = m := ⟨_, rfl⟩
                                  have HWQ : Hid ((if lf = rt then 0 else 1) = wq3) := hwq
                                  clear hwq
                                  go_cut [24] (fun v wc' => v = .int .i64 (wq3 : Int) ∧ wc' = Wb)
                                  case first =>
                                    by_cases heq : lf = rt
                                    · have hbb : (lf == rt) = true := by simpa using heq
                                      have hw : wq3 = 0 := by have := HWQ.out; rw [if_pos heq] at this; exact this.symm
                                      subst hw
                                      clear heq
                                      go_wp2_with fail
                                      go_meet
                                      exact ⟨rfl, rfl⟩
                                    · have hbb : (lf == rt) = false := by simpa using heq
                                      have hw : wq3 = 1 := by have := HWQ.out; rw [if_neg heq] at this; exact this.symm
                                      subst hw
                                      clear heq
                                      go_wp2_with fail
                                      go_meet
                                      exact ⟨rfl, rfl⟩
                                  case rest =>
                                    obtain ⟨rfl, rfl⟩ := hcut
                                    have hSl : (swapAt xs s3).length = m := by rw [swapAt_length]; exact HG.out.2.1
                                    have hcells : ∀ i, i < (swapAt xs s3).length → wc.cell? ((⟨WT.heap.size, 0, none⟩ : Addr).add i) = some (.int .i32 ((swapAt xs s3).getD i 0)) := by
                                      intro i hi'
                                      rw [Addr.add_lit, Nat.zero_add, R3.1.cellAt i (by omega)]
                                      exact map_at _ i hi'
                                    have hcv := run_convert_runes (P := Trym.prog) wc 24 9 21 ⟨WT.heap.size, 0, none⟩ m m (swapAt xs s3) (by omega) Trym.underlying24 Trym.underlying21 Trym.underlying9 hcells
                                    rw [List.take_of_length_le (by omega)] at hcv
                                    have hsb := runesBytes_size_le (swapAt xs s3)
                                    have hrb := runesOf_bytes (swapAt xs s3) (swapAt_valid HG.out.2.2.1 (by have := HG.out.2.1; omega))
                                    rw [hSl] at hsb
                                    obtain ⟨sS3, hsS⟩ : ∃ b, runesBytes (swapAt xs s3) = b := ⟨_, rfl⟩
                                    rw [hsS] at hcv hsb hrb
                                    have hd1 := dist_swap xs s3 (by have := HG.out.2.1; omega)
                                    rw [HLR.out.1, HLR.out.2, HWQ.out] at hd1
                                    have HC1 : Hid (∀ wx, Calls Trym.prog 10 #[.string a, .string sS3] wx fun e w' => e = .returned (.int .i64 (wq3 : Int)) ∧ Below wx.heap.size wx w') := fun wx => by
                                      have h := zz_any a sS3 wx (by omega) (by omega)
                                      rw [HG.out.1, hrb, hd1] at h
                                      exact h
                                    have HA : Hid _ := R4
                                    have hse : ((wq3 : Int) != (wq3 : Int)) = false := by simp
                                    clear R3 R4 hcells hSl hrb hsS hd1 hsb HWQ
                                    go_wp2_with fail
                                    refine (HC1.out _).mono ?_
                                    rintro e w11 ⟨rfl, hb8⟩
                                    have HA8 : Hid (Below WT.heap.size WT w11) := HA.out.trans (hb8.mono HA.out.size)
                                    have HB9 : Hid (Below w1.heap.size w1 w11) := HB8.out.trans (HA8.out.mono HB8.out.size)
                                    clear hb8 hcv HC1 HA HA8
                                    go_wp2
                                    go_ret
                                    exact ⟨rfl, HB9.out⟩
end Go.Proofs.Qxb6001239aMods.fnEditDistanceOneEdit

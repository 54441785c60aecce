/-
  SEAT b6000822aM: splice walked.
-/
import Derived.Test.Qxb6000822aModsEdits
import Derived.Test.Qxb6000822aModsPlain
namespace Go.Proofs.Qxb6000822aMods
open Go.RowKit

theorem size22 (w : World) : (sizeOf (Trym.prog.elem 22)).run Trym.prog w = .ok 1 w := by kernel_rfl

/-- A slice of a slice. -/
theorem IsB.sub {k : IntKind} {w : World} {ao : Option Addr} {n cap : Nat} {zs : List Int} (h : IsB k w (.slice ao n cap) zs) (p q : Nat) (hpq : p ≤ q) (hq : q ≤ zs.length) :
    IsB k w (.slice (if cap = p then ao else ao.map (·.add (p * 1))) (q - p) (cap - p)) ((zs.drop p).take (q - p)) := by
  obtain ⟨ao', b, off, cap', hv, h1, h2, h3, h4, h5⟩ := h
  cases hv
  have hl : ((zs.drop p).take (q - p)).length = q - p := by simp; omega
  refine ⟨_, b, off + p, cap - p, by rw [hl], by rw [hl]; omega, by omega, ?_, ?_, ?_⟩
  · intro hn
    have : ao = none := by
      split at hn
      · exact hn
      · simpa using hn
    have := h3 this
    omega
  · intro hpos
    rw [hl] at hpos
    rw [if_neg (by omega), h4 (by omega)]
    simp [Addr.add]
  · intro i hi
    rw [hl] at hi
    have e := h5 (p + i) (by omega)
    rw [← Nat.add_assoc] at e
    rw [e]
    have e1 : p + i < zs.length := by omega
    simp [List.getD, hi, e1]

/-- What the laws on append ask of their source. -/
theorem IsB.src {k : IntKind} {w : World} {ao : Option Addr} {m c : Nat} {zs : List Int} (h : IsB k w (.slice ao m c) zs) :
    (ao = none → m = 0 ∧ c = 0) ∧ ∀ ad, ao = some ad → ∀ j u, (zs.map (Value.int k))[j]? = some u → w.cell? (ad.add j) = some u := by
  obtain ⟨ao', b, off, cap', hv, h1, h2, h3, h4, h5⟩ := h
  cases hv
  refine ⟨fun hn => ⟨by have := h3 hn; omega, h3 hn⟩, fun ad had j u hu => ?_⟩
  have hj : j < zs.length := by simpa using (List.getElem?_eq_some_iff.1 hu).1
  rw [h4 (by omega)] at had
  cases had
  rw [Addr.add_lit, h5 j hj]
  rw [← hu]
  simp [List.getD, hj]

theorem IsB.len {k : IntKind} {w : World} {ao : Option Addr} {m c : Nat} {zs : List Int} (h : IsB k w (.slice ao m c) zs) : zs.length = m := by
  obtain ⟨ao', b, off, cap', hv, _⟩ := h
  cases hv; rfl

set_option maxRecDepth 100000 in
set_option maxHeartbeats 1600000 in
theorem splice_any (vd ve : Value) (doc : List Int) (es : List Ed) (w : World) (Hd : IsB .u8 w vd doc) (He : IsE w ve es) (hv : Valid doc.length 0 es)
    (gd : doc.length ≤ 1099511627776) (gn : es.length ≤ 1048576) (gt : tl es ≤ 1099511627776) :
    Calls Trym.prog 19 #[vd, ve] w fun e w' => ∃ v', e = .returned v' ∧ IsB .u8 w' v' (spl doc 0 es) ∧ Below w.heap.size w w' := by
  have Hd' := Hd
  obtain ⟨ao1, b1, off1, cap1, rfl, hlc1, hcm1, _, _, _⟩ := Hd
  obtain ⟨ao2, b2, off2, cap2, rfl, hlc2, hcm2, hnil2, hao2, hcell2⟩ := He
  obtain ⟨d, hd⟩ : ∃ n, doc.length = n := ⟨_, rfl⟩
  obtain ⟨n, hzn⟩ : ∃ n, es.length = n := ⟨_, rfl⟩
  have HD : Hid (doc.length = d) := hd
  have HZ : Hid (es.length = n) := hzn
  have hvl := valid_le hv (Nat.zero_le _)
  have hspl := spl_length hv (Nat.zero_le _)
  rw [hd] at hlc1 gd hvl hv hspl Hd' ⊢
  have HDOC : Hid (IsB .u8 w (.slice ao1 d cap1) doc) := Hd'
  rw [hzn] at hlc2 hao2 hcell2 gn ⊢
  clear hd hzn hnil2 Hd'
  unfold maxLen at hcm1 hcm2
  go_enter Trym.func19, Trym.ntmps19
  go_wp2
  go_loopw [5, 16] (fun sv i wr => ∃ (k : Nat) (s : Int), k ≤ n ∧ i = .int .i64 k ∧ sv = .int .i64 s ∧ s + siz (es.drop k) = d + siz es ∧ Below w.heap.size w wr)
    (fun _ i _ => n - (intOf i).toNat)
  case atStart => exact ⟨0, d, Nat.zero_le _, rfl, rfl, by simp, Below.refl _ _⟩
  case round =>
    obtain ⟨k, s, hk, rfl, rfl, hs, hb⟩ := hrel
    have hbd := siz_drop_bd hv (Nat.zero_le _) k
    by_cases hlt : k < n
    · obtain rfl := hao2 (by omega)
      obtain ⟨u, hc1, hc2, hc3, hBu⟩ := hcell2 k hlt
      have hlt2 := World.block_lt_of_cell? w _ hc1
      have hkl : k < es.length := by have := HZ.out; omega
      have hsd := siz_drop es k hkl
      have hva := valid_at hv (Nat.zero_le _) k hkl
      have hta := tl_at_le es k hkl
      obtain ⟨aou, capu, hsh⟩ := hBu.shape
      obtain ⟨mu, hmu⟩ : ∃ m, (es.getD k (0, 0, [])).2.2.length = m := ⟨_, rfl⟩
      obtain ⟨a, ha⟩ : ∃ a, (es.getD k (0, 0, [])).1 = a := ⟨_, rfl⟩
      obtain ⟨l, hl⟩ : ∃ l, (es.getD k (0, 0, [])).2.1 = l := ⟨_, rfl⟩
      rw [hmu] at hsh hsd hta
      rw [ha] at hc1 hva
      rw [hl] at hc2 hsd hva
      subst hsh
      have hd1 : wr.cell? ⟨b2, off2 + k * 3, none⟩ = some (.int .i64 a) := (hb.cell (p := ⟨b2, off2 + k * 3, none⟩) hlt2).trans hc1
      have hd2 : wr.cell? ⟨b2, off2 + k * 3 + 1, none⟩ = some (.int .i64 l) := (hb.cell (p := ⟨b2, off2 + k * 3 + 1, none⟩) hlt2).trans hc2
      have hd3 : wr.cell? ⟨b2, off2 + k * 3 + 2, none⟩ = some (.slice aou mu capu) := (hb.cell (p := ⟨b2, off2 + k * 3 + 2, none⟩) hlt2).trans hc3
      have HS : Hid (s + (mu - l) + siz (es.drop (k + 1)) = d + siz es) := by show _ = _; omega
      have HB : Hid _ := hb
      have hs0 : -1099511627776 ≤ s := by omega
      have hs1 : s ≤ 3298534883328 := by omega
      clear hcell2 hao2 hc1 hc2 hc3 ha hl hmu hspl hs hsd hbd hvl hb hBu
      go_wp2
      go_roundw
      case rel => exact ⟨k + 1, s + (mu - l), by omega, by go_num, rfl, HS.out, HB.out.alloc HB.out.size _⟩
      case measure => simp [intOf]; omega
    · have hs' : s = d + siz es := by
        have e : siz (es.drop k) = 0 := by rw [List.drop_eq_nil_of_le (by have := HZ.out; omega)]; rfl
        omega
      obtain ⟨S, hS⟩ : ∃ S : Nat, (S : Int) = d + siz es := ⟨(d + siz es).toNat, by omega⟩
      have HS : Hid ((S : Int) = d + siz es) := hS
      have hSb : S ≤ 3298534883328 := by omega
      obtain rfl : s = (S : Int) := by omega
      have hsS : (spl doc 0 es).length = S := by omega
      obtain ⟨i0, hi, hz0, hz1, hz2⟩ := info_parts Trym.info5
      have hbw := hb.size
      have HB : Hid _ := hb
      clear hs hs' hS hbd hvl hspl hb
      go_wp2_with (at_make; refine wpList_make_own _ rfl _ _ 22 rfl w.heap.size 5 i0 (.int .u8 0) 1 Trym.underlying22 hi hz0 hz1 _ _ _ S rfl rfl (by omega) ?b1 ?b2 ?b3 ?_)
      case b1 => rw [hz2]; omega
      case b2 => unfold maxLen; omega
      case b3 => exact hbw
      intro w1 hown hgrow
      have hb1 : Below w.heap.size w w1 := HB.out.grown hgrow hbw (fun k h => by cases h)
      obtain ⟨G, hG⟩ : ∃ G, wr.heap.size = G := ⟨_, rfl⟩
      rw [hG] at hown hbw ⊢
      have HS2 : Hid ((spl doc 0 es).length = S) := hsS
      clear hgrow HB hG hsS hk hlt
      go_wp2
      go_loopw [8, 9, 33] (fun ov pv i wr => ∃ (k p : Nat) (o : List Int), k ≤ n ∧ i = .int .i64 k ∧ pv = .int .i64 p ∧ ov = .slice (some ⟨G, 0, none⟩) o.length S ∧ wr.ownsRow w.heap.size 5 1 (.slice (some ⟨G, 0, none⟩) o.length S) o.length (o.map (Value.int .u8)) ∧
          o ++ spl doc p (es.drop k) = spl doc 0 es ∧ Valid d p (es.drop k) ∧ p ≤ d ∧ Below w.heap.size w wr)
        (fun _ _ i _ => n - (intOf i).toNat)
      case atStart => exact ⟨0, 0, [], Nat.zero_le _, rfl, rfl, rfl, hown, by simp, by simpa using hv, Nat.zero_le _, hb1⟩
      case round =>
        obtain ⟨k, p, o, hk, rfl, rfl, rfl, hownk, hspl, hvk, hp, hb⟩ := hrel
        clear hown hb1
        by_cases hlt : k < n
        · obtain rfl := hao2 (by omega)
          obtain ⟨u, hc1, hc2, hc3, hBu⟩ := hcell2 k hlt
          have hlt2 := World.block_lt_of_cell? w _ hc1
          have hkl : k < es.length := by have := HZ.out; omega
          obtain ⟨hv1, hv2, hv3⟩ := valid_drop hkl hvk
          rw [spl_drop doc p es k hkl] at hspl
          obtain ⟨t, ht⟩ : ∃ t, (es.getD k (0, 0, [])).2.2 = t := ⟨_, rfl⟩
          obtain ⟨a, ha⟩ : ∃ a, (es.getD k (0, 0, [])).1 = a := ⟨_, rfl⟩
          obtain ⟨l, hl⟩ : ∃ l, (es.getD k (0, 0, [])).2.1 = l := ⟨_, rfl⟩
          rw [ha] at hc1 hv1 hv2 hv3 hspl
          rw [hl] at hc2 hv2 hv3 hspl
          rw [ht] at hBu hspl
          have hBr : IsB .u8 wr u t := hBu.below hb
          obtain ⟨aou, capu, hsh⟩ := hBu.shape
          subst hsh
          have hd1 : wr.cell? ⟨b2, off2 + k * 3, none⟩ = some (.int .i64 a) := (hb.cell (p := ⟨b2, off2 + k * 3, none⟩) hlt2).trans hc1
          have hd2 : wr.cell? ⟨b2, off2 + k * 3 + 1, none⟩ = some (.int .i64 l) := (hb.cell (p := ⟨b2, off2 + k * 3 + 1, none⟩) hlt2).trans hc2
          have hd3 : wr.cell? ⟨b2, off2 + k * 3 + 2, none⟩ = some (.slice aou t.length capu) := (hb.cell (p := ⟨b2, off2 + k * 3 + 2, none⟩) hlt2).trans hc3
          have i1 : (0 : Int) ≤ (p : Int) := by omega
          have i2 : (p : Int) ≤ (a : Int) := by omega
          have i3 : (a : Int) ≤ (cap1 : Int) := by omega
          have hsub := HDOC.out.sub p a hv1 (by rw [HD.out]; omega)
          obtain ⟨X, hX⟩ : ∃ X, (doc.drop p).take (a - p) = X := ⟨_, rfl⟩
          obtain ⟨aop, haop⟩ : ∃ x, (if cap1 = p then ao1 else ao1.map (·.add (p * 1))) = x := ⟨_, rfl⟩
          rw [hX] at hsub hspl
          rw [haop] at hsub
          have hsl : ∀ wx, (Instr.slice 22 (.slice ao1 d cap1) (some (.int .i64 p)) (some (.int .i64 a)) none).run Trym.prog wx = .ok (.slice aop (a - p) (cap1 - p)) wx := by
            intro wx
            rw [run_slice_lh (P := Trym.prog) wx 22 ao1 d cap1 Trym.underlying22 .i64 .i64 p a i1 i2 i3, size22 wx]
            simp only [Result.andThen, sliced, Int.toNat_natCast]
            rw [haop]
          have hXl : X.length = a - p := hsub.len
          have hroom : o.length + (a - p) + t.length ≤ S := by
            have h1 := congrArg List.length hspl
            rw [HS2.out] at h1
            simp only [List.length_append] at h1
            omega
          have hGs : G < wr.heap.size := (hownk.lt _ rfl).2
          have HB : Hid _ := And.intro hb (And.intro hsub hBu)
          have HP : Hid _ := And.intro hspl hv3
          have HX : Hid _ := hXl
          clear hb hsub hBu hspl hv3 hX haop hXl hBr hc1 hc2 hc3 ha hl ht hcell2 hao2 hvk
          go_wp2_with fail
          go_region_held3 (fun w' => w'.cell? ⟨wr.heap.size, 0, none⟩ = some (.int .i64 a) ∧ w'.cell? ⟨wr.heap.size, 2, none⟩ = some (.slice aou t.length capu))
            (first | go_keep | (go_split_ands; refine ⟨?_, ?_⟩ <;> (rw [hgr.cell_far _ (by simp) (by simp; omega)]; go_keep)) | (go_split_ands; refine ⟨?_, ?_⟩ <;> (rw [hgr3.cell_far _ (by have := hgr.size; simp at this; simp; omega) (by simp; omega)]; assumption)))
            (first
              | (refine step_append_fits (by rfl) (.tmp 37) (.tmp 42) _ (by rfl) w.heap.size 5 i0 1 Trym.underlying22 hi hz1 G o.length S (o.map (Value.int .u8)) (by rfl) (by exact hownk.alloc _) aop (a - p) (cap1 - p) (X.map (Value.int .u8)) (by rfl) (by rw [List.length_map, HX.out]; omega) HB.out.2.1.src.1 (by exact (HB.out.2.1.below (HB.out.1.alloc HB.out.1.size _).drew).src.2) (ints_oneCell _ _) (by omega) ?_; intro w2 hown2 hgr)
              | (refine step_append_fits (by rfl) (.tmp 43) (.tmp 45) _ (by rfl) w.heap.size 5 i0 1 Trym.underlying22 hi hz1 G (o.length + (a - p)) S (o.map (Value.int .u8) ++ X.map (Value.int .u8)) (by rfl) (by exact hown2) aou t.length capu (t.map (Value.int .u8)) (by rfl) (by simp) HB.out.2.2.src.1 (by exact (HB.out.2.2.below ((HB.out.1.alloc HB.out.1.size _).drew.grown (row := some G) hgr (by simp; omega) (fun j h => by have := Option.some.inj h; omega))).src.2) (ints_oneCell _ _) (by omega) ?_; intro w3 hown3 hgr3))
          have hs2 : wr.heap.size + 1 ≤ w2.heap.size := by have := hgr.size; simpa using this
          have q0 : w3.cell? ⟨wr.heap.size, 0, none⟩ = some (.int .i64 a) := by
            rw [hgr3.cell_far _ (by simp; omega) (by simp; omega), hgr.cell_far _ (by simp) (by simp; omega)]
            simp [World.cell?_alloc_at]
          have q1 : w3.cell? ⟨wr.heap.size, 1, none⟩ = some (.int .i64 l) := by
            rw [hgr3.cell_far _ (by simp; omega) (by simp; omega), hgr.cell_far _ (by simp) (by simp; omega)]
            simp [World.cell?_alloc_at]
          have hbw2 : Below w.heap.size w w2 := (HB.out.1.alloc HB.out.1.size _).drew.grown (row := some G) hgr (by simp; omega) (fun j h => by have := Option.some.inj h; omega)
          have hbw3 : Below w.heap.size w w3 := hbw2.grown (row := some G) hgr3 hbw2.size (fun j h => by have := Option.some.inj h; omega)
          have hol : (o ++ X ++ t).length = o.length + (a - p) + t.length := by simp only [List.length_append]; rw [HX.out]
          have R : Hid (w3.ownsRow w.heap.size 5 1 (.slice (some ⟨G, 0, none⟩) (o ++ X ++ t).length S) (o ++ X ++ t).length ((o ++ X ++ t).map (Value.int .u8)) ∧ Below w.heap.size w w3) := by
            refine ⟨?_, hbw3⟩
            rw [hol]
            simpa using hown3
          have HOL : Hid _ := hol
          clear hown3 hown2 hgr hgr3 hbw2 hbw3 hol hownk hd1 hd2 hd3 hsl
          go_wp2
          go_roundw
          case rel => exact ⟨k + 1, a + l, o ++ X ++ t, by omega, by go_num, by go_num, by rw [HOL.out], R.out.1, by rw [← HP.out.1]; simp, HP.out.2, by omega, R.out.2⟩
          case measure => simp [intOf]; omega
        · have hkn : es.drop k = [] := List.drop_eq_nil_of_le (by have := HZ.out; omega)
          rw [hkn] at hspl
          have hsub := HDOC.out.sub p d hp (by rw [HD.out]; exact Nat.le_refl _)
          have hXe : (doc.drop p).take (d - p) = doc.drop p := List.take_of_length_le (by rw [List.length_drop, HD.out]; exact Nat.le_refl _)
          rw [hXe] at hsub
          have hX2 : o ++ doc.drop p = spl doc 0 es := hspl
          obtain ⟨X, hX⟩ : ∃ X, doc.drop p = X := ⟨_, rfl⟩
          obtain ⟨aop, haop⟩ : ∃ x, (if cap1 = p then ao1 else ao1.map (·.add (p * 1))) = x := ⟨_, rfl⟩
          rw [hX] at hsub hX2
          rw [haop] at hsub
          have i1 : (0 : Int) ≤ (p : Int) := by omega
          have i2 : (p : Int) ≤ (d : Int) := by omega
          have hsl : ∀ wx, (Instr.slice 22 (.slice ao1 d cap1) (some (.int .i64 p)) none none).run Trym.prog wx = .ok (.slice aop (d - p) (cap1 - p)) wx := by
            intro wx
            rw [run_slice_l (P := Trym.prog) wx 22 ao1 d cap1 Trym.underlying22 .i64 p i1 i2, size22 wx]
            simp only [Result.andThen, sliced, Int.toNat_natCast]
            rw [haop]
          have hXl : X.length = d - p := hsub.len
          have hroom : o.length + (d - p) ≤ S := by
            have h1 := congrArg List.length hX2
            rw [HS2.out] at h1
            simp only [List.length_append] at h1
            omega
          have HB : Hid _ := And.intro hb (hsub.below hb)
          have HX : Hid _ := And.intro hXl hX2
          clear hb hsub hspl hX hX2 haop hXl hcell2 hao2 hvk hXe hkn
          go_wp2_with (at_builtin; refine wpList_append_fits_any _ rfl (.tmp 53) (.tmp 56) 22 rfl w.heap.size 5 i0 1 Trym.underlying22 hi hz1 G o.length S (o.map (Value.int .u8)) rfl hownk aop (d - p) (cap1 - p) (X.map (Value.int .u8)) rfl (by rw [List.length_map, HX.out.1]; omega) HB.out.2.src.1 HB.out.2.src.2 (ints_oneCell _ _) (by omega) ?_)
          intro w2 hown2 hgr
          have R : Hid (IsB .u8 w2 (.slice (some ⟨G, 0, none⟩) (o.length + (d - p)) S) (spl doc 0 es) ∧ Below w.heap.size w w2) := by
            refine ⟨?_, HB.out.1.grown (row := some G) hgr HB.out.1.size (fun j h => by have := Option.some.inj h; omega)⟩
            rw [← HX.out.2]
            refine isB_of_own (by simpa using hown2) ?_
            rw [List.length_append, HX.out.1]
          clear hown2 hgr
          go_wp2
          go_ret
          exact ⟨_, rfl, R.out.1, R.out.2⟩

theorem zzsplice_any (vd ve : Value) (doc : List Int) (es : List Ed) (w : World) (Hd : IsB .u8 w vd doc) (He : IsE w ve es) (hv : Valid doc.length 0 es)
    (gd : doc.length ≤ 1099511627776) (gn : es.length ≤ 1048576) (gt : tl es ≤ 1099511627776) :
    Calls Trym.prog 12 #[vd, ve] w fun e w' => ∃ v', e = .returned v' ∧ IsB .u8 w' v' (spl doc 0 es) ∧ Below w.heap.size w w' := by
  go_enter Trym.func12, Trym.ntmps12
  go_wp2_with fail
  refine (splice_any vd ve doc es _ Hd He hv gd gn gt).mono ?_
  rintro e w' ⟨v', rfl, h1, h2⟩
  have R : Hid _ := And.intro h1 h2
  clear h1 h2 Hd He hv
  go_wp2
  go_ret
  exact ⟨_, rfl, R.out.1, R.out.2⟩
end Go.Proofs.Qxb6000822aMods

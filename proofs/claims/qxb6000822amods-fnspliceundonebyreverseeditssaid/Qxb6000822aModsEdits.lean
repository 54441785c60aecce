/-
  SEAT b6000822aM: the clone of a slice of texts; one edit made; the slice of edits made.
-/
import Derived.Test.Qxb6000822aModsClone
import Derived.Deep.RegionHeld3
import Derived.Deep.DrawnRows
import Derived.Deep.AppendLies
namespace Go.Proofs.Qxb6000822aMods
open Go.RowKit
theorem Trym.info37 : (Trym.prog.info? 37).map (fun i => (i.zero, i.size, i.bytes)) = some (some (.agg #[.int .i64 0, .int .i64 0, .slice none 0 0]), 3, 40) := by kernel_rfl

theorem IsB.shape {k : IntKind} {w : World} {v : Value} {zs : List Int} (h : IsB k w v zs) : ∃ ao cap, v = .slice ao zs.length cap := by
  obtain ⟨ao, b, off, cap, rfl, _⟩ := h
  exact ⟨ao, cap, rfl⟩

theorem IsB.setOther {k : IntKind} {w : World} {v : Value} {zs : List Int} (h : IsB k w v zs) {g o : Nat} {y u : Value} (hc : w.cell? ⟨g, o, none⟩ = some y) (hy : ∀ z, y ≠ .int k z) : IsB k (w.setCell ⟨g, o, none⟩ u) v zs := by
  obtain ⟨ao, b, off, cap, rfl, h1, h2, h3, h4, h5⟩ := h
  refine ⟨ao, b, off, cap, rfl, h1, h2, h3, h4, fun i hi => ?_⟩
  have hne : (⟨g, o, none⟩ : Addr) ≠ ⟨b, off + i, none⟩ := by
    intro he
    have h5i := h5 i hi
    rw [← he, hc] at h5i
    exact hy _ (Option.some.inj h5i)
  rw [World.cell?_setCell_other _ _ _ _ hne]
  exact h5 i hi

theorem IsT.nil (w : World) : IsT w (.slice none 0 0) [] := ⟨none, 0, 0, 0, rfl, Nat.le_refl _, by decide, fun _ => rfl, fun h => absurd h (by simp), fun i h => absurd h (by simp)⟩

set_option maxHeartbeats 400000 in
theorem cloneTexts_any (v : Value) (ts : List (List Int)) (w : World) (hT : IsT w v ts) (hn : ts.length ≤ 1099511627776) (hs : ∀ i, i < ts.length → (ts.getD i []).length ≤ 1099511627776) :
    Calls Trym.prog 11 #[v] w fun e w' => ∃ v', e = .returned v' ∧ IsT w' v' ts ∧ Below w.heap.size w w' := by
  obtain ⟨ao, b, off, cap, rfl, hlc, hcm, hnil, hao, hcell⟩ := hT
  obtain ⟨n, hzn⟩ : ∃ n, ts.length = n := ⟨_, rfl⟩
  have HZ : Hid (ts.length = n) := hzn
  rw [hzn] at hn hlc hao hcell hs ⊢
  clear hzn
  cases ao with
  | none =>
    have h0 : cap = 0 := hnil rfl
    obtain rfl : n = 0 := by omega
    obtain rfl := List.eq_nil_of_length_eq_zero HZ.out
    have heq := fun wx => Lib.run_eql_slice_nil (P := Trym.prog) wx 24 22 none 0 cap 0 0 Trym.underlying24
    subst h0
    clear hnil hao hcell HZ hs
    go_enter Trym.func11, Trym.ntmps11
    go_wp2
    go_ret
    exact ⟨_, rfl, IsT.nil _, Below.refl _ _⟩
  | some x =>
    have heq := fun wx => Lib.run_eql_slice_nil (P := Trym.prog) wx 24 22 (some x) n cap 0 0 Trym.underlying24
    obtain ⟨i0, hi, hz0, hz1, hz2⟩ := info_parts Trym.info22
    clear hnil
    go_enter Trym.func11, Trym.ntmps11
    go_wp2_with (at_make; refine wpList_make_full _ rfl _ _ 24 rfl w.heap.size 22 i0 (.slice none 0 0) 1 Trym.underlying24 hi hz0 hz1 _ _ _ _ n rfl rfl (by omega) (by omega) ?b1 ?b2 ?b3 ?_)
    case b1 => rw [hz2]; omega
    case b2 => unfold maxLen; omega
    case b3 => exact Nat.le_refl _
    intro w1 hown hgrow
    have hown1 : w1.ownsRow w.heap.size 22 1 (.slice (some ⟨w.heap.size, 0, none⟩) n n) n (([] : List Value) ++ List.replicate (n - 0) (.slice none 0 0)) := by
      have e : ([] : List Value) ++ List.replicate (n - 0) (.slice none 0 0) = (madeCells #[Value.slice none 0 0] n).toList := by rw [toList_madeCells_one]; simp
      rw [e]; exact hown
    have hb1 : Below w.heap.size w w1 := (Below.refl _ _).grown hgrow (Nat.le_refl _) (fun k h => by cases h)
    clear hown hgrow heq
    go_wp2
    go_loopw [4] (fun i wr => ∃ (k : Nat) (us : List Value), k ≤ n ∧ i = .int .i64 k ∧ us.length = k ∧ wr.ownsRow w.heap.size 22 1 (.slice (some ⟨w.heap.size, 0, none⟩) n n) n (us ++ List.replicate (n - k) (.slice none 0 0)) ∧
        (∀ j, j < k → IsB .u8 wr (us.getD j undef) (ts.getD j [])) ∧ Below w.heap.size w wr)
      (fun i _ => n - (intOf i).toNat)
    case atStart => exact ⟨0, [], Nat.zero_le _, rfl, rfl, hown1, fun j h => absurd h (by omega), hb1⟩
    case round =>
      obtain ⟨k, us, hk, rfl, hus, hown, hbs, hb⟩ := hrel
      by_cases hlt : k < n
      · obtain rfl : x = ⟨b, off, none⟩ := Option.some.inj (hao (by omega))
        obtain ⟨u, hu, hBu⟩ := hcell k hlt
        have hc : wr.cell? ⟨b, off + k, none⟩ = some u := (hb.cell (p := ⟨b, off + k, none⟩) (World.block_lt_of_cell? w _ hu)).trans hu
        have hB' : IsB .u8 wr u (ts.getD k []) := hBu.below hb
        have hsk := hs k hlt
        have HA : Hid _ := And.intro hown (And.intro hbs hb)
        have HU : Hid _ := hus
        clear hown hbs hb hown1 hb1 hao hcell hs hBu hu hus
        go_wp2_with fail
        refine (cloneBytes_any u (ts.getD k []) _ hB' hsk).mono ?_
        rintro e w2 ⟨v', rfl, hv', hb2⟩
        obtain ⟨aov, capv, hsh⟩ := hv'.shape
        obtain ⟨m, hm⟩ : ∃ m, (ts.getD k []).length = m := ⟨_, rfl⟩
        rw [hm] at hsh hsk
        subst hsh
        obtain ⟨hown, hbs, hb⟩ := HA.out
        have hown2 : w2.ownsRow w.heap.size 22 1 (.slice (some ⟨w.heap.size, 0, none⟩) n n) n (us ++ List.replicate (n - k) (.slice none 0 0)) :=
          hown.kept (row := none) ⟨hb2.os, hb2.tape, hb2.output, hb2.size, fun j hj _ => hb2.block j hj⟩ (.inr (by simp [Value.ownBlock]))
        have hbw : Below w.heap.size w w2 := hb.trans (hb2.mono hb.size)
        obtain ⟨y, hy⟩ : ∃ y, (us ++ List.replicate (n - k) (Value.slice none 0 0))[k]? = some y := ⟨_, List.getElem?_eq_getElem (by have := hown.1; omega)⟩
        have hcw : w2.cell? ⟨w.heap.size, k, none⟩ = some y := (hown2.cellAt k (by omega)).trans hy
        have hfz := hown2.frozenAt k
        have hlt2 : w.heap.size < wr.heap.size := (hown.lt _ rfl).2
        have R := hown2.stored k (.slice aov m capv)
        rw [set_fill _ _ _ n k HU.out hlt] at R
        have R2 := hbw.setCell (p := ⟨w.heap.size, k, none⟩) (Nat.le_refl _) (.slice aov m capv)
        have R3 : ∀ j, j < k + 1 → IsB .u8 (w2.setCell ⟨w.heap.size, k, none⟩ (.slice aov m capv)) ((us ++ [Value.slice aov m capv]).getD j undef) (ts.getD j []) := by
          have hyk : y = Value.slice none 0 0 := by
            rw [List.getElem?_append_right (Nat.le_of_eq HU.out), HU.out, Nat.sub_self, List.getElem?_replicate, if_pos (by omega)] at hy
            exact (Option.some.inj hy).symm
          have kp : ∀ {q : Value} {zz : List Int}, IsB .u8 w2 q zz → IsB .u8 (w2.setCell ⟨w.heap.size, k, none⟩ (.slice aov m capv)) q zz := fun hq =>
            hq.setOther hcw (by rw [hyk]; intro z h; cases h)
          intro j hj
          by_cases hjk : j < k
          · have := (hbs j hjk).below hb2
            have e : (us ++ [Value.slice aov m capv]).getD j undef = us.getD j undef := by
              simp only [List.getD]; rw [List.getElem?_append_left (by have := HU.out; omega)]
            rw [e]
            exact kp this
          · obtain rfl : j = k := by omega
            have e : (us ++ [Value.slice aov m capv]).getD j undef = .slice aov m capv := by
              simp only [List.getD]; rw [List.getElem?_append_right (by have := HU.out; omega), HU.out]; simp
            rw [e]
            exact kp hv'
        have R' : Hid _ := And.intro R.1 (And.intro R2 R3)
        clear R R2 R3 hy hown hown2 hb hbw hbs HA hv' hb2 hB' hlt2
        go_wp2
        go_roundw
        case rel => exact ⟨k + 1, us ++ [Value.slice aov m capv], by omega, by go_num, by simp; exact HU.out, R'.out.1, R'.out.2.2, R'.out.2.1⟩
        case measure => simp [intOf]; omega
      · obtain rfl : k = n := by omega
        have R : Hid (IsT wr (.slice (some ⟨w.heap.size, 0, none⟩) k k) ts) := by
          refine ⟨_, w.heap.size, 0, k, by rw [HZ.out], Nat.le_of_eq HZ.out, by unfold maxLen; omega, (fun h => by cases h), fun _ => rfl, fun i hi => ?_⟩
          have hik : i < k := by have := HZ.out; omega
          refine ⟨us.getD i undef, ?_, hbs i hik⟩
          rw [Nat.zero_add, hown.cellAt i (by omega), List.getElem?_append_left (by omega)]
          simp [List.getD, hus, hik]
        have HB : Hid _ := hb
        clear hown hb hown1 hb1 hao hcell hs hbs
        go_wp2
        go_ret
        exact ⟨_, rfl, R.out, HB.out⟩

theorem makeEdit_any (a l : Int) (ao : Option Addr) (n cap : Nat) (w : World) :
    Calls Trym.prog 17 #[.int .i64 a, .int .i64 l, .slice ao n cap] w fun e w' => e = .returned (.agg #[.int .i64 a, .int .i64 l, .slice ao n cap]) ∧ w' = w.alloc (.cells #[.int .i64 a, .int .i64 l, .slice ao n cap] 37) := by
  go_enter Trym.func17, Trym.ntmps17
  go_wp2
  exact bodyPost_ret (v := .agg #[.int .i64 a, .int .i64 l, .slice ao n cap]) (by simp [results, Trym.results17, go_sem]) rfl ⟨rfl, rfl⟩
/-- append within the capacity, whatever the source, as one step of a region that draws. -/
theorem step_append_fits {P : Program} {ops : Array Oper} {o : Oper} {a : Act} {w : World} {K : Act → World → Prop} {Q : Exit → Act → World → Prop} {E : Prop}
    (hg : o.guard = none) (s x : Operand) (t : TypeId) (hop : o.op = Op.call { callee := Callee.builtin Builtin.append, args := #[s, x], argTypes := #[t, t] })
    (base : Nat) (e : TypeId) (i : TypeInfo) (size : Nat) (h1 : P.underlying t = some (.slice e)) (h2 : P.info? e = some i) (h4 : i.size = size)
    (g k cap : Nat) (xs : List Value) (hs : a.eval s = .slice (some ⟨g, 0, none⟩) k cap) (hown : w.ownsRow base e size (.slice (some ⟨g, 0, none⟩) k cap) k xs) (ao : Option Addr) (m c : Nat) (news : List Value) (hx : a.eval x = .slice ao m c) (hn : news.length = m * size)
    (hnone : ao = none → m = 0 ∧ c = 0) (hc : ∀ ad, ao = some ad → ∀ j u, news[j]? = some u → w.cell? (ad.add j) = some u) (h1c : ∀ u ∈ news, u.oneCell' = true) (b1 : k + m ≤ cap)
    (hK : ∀ w', w'.ownsRow base e size (.slice (some ⟨g, 0, none⟩) (k + m) cap) (k + m) (xs ++ news) → w.grownBy w' (some g) → K (a.put o.dst (.slice (some ⟨g, 0, none⟩) (k + m) cap)) w') :
    if Region.wanted o (yielded ops a.tmps) = true then Oper.wp P o a w K Q else E := by
  have hw : Region.wanted o (yielded ops a.tmps) = true := by simp [Region.wanted, hg]
  rw [if_pos hw]
  cases ao with
  | some ad =>
    obtain ⟨w', hrun, r1, r2⟩ := run_append_fits (P := P) w base t o.type e i size h1 h2 h4 g k cap xs hown ad m c news hn (hc ad rfl) h1c b1
    unfold Oper.wp
    simp [execOp, hop, resolve, invoke, builtin, hs, hx, hrun, Result.andThen]
    exact hK w' r1 r2
  | none =>
    obtain ⟨rfl, rfl⟩ := hnone rfl
    have hnews : news = [] := List.eq_nil_of_length_eq_zero (by simpa using hn)
    subst hnews
    have hrun := run_append_owned_none (P := P) w base t o.type e i size h1 h2 _ k xs hown
    unfold Oper.wp
    simp [execOp, hop, resolve, invoke, builtin, hs, hx, hrun, Result.andThen]
    have := hK w (by simpa using hown) (World.grownBy.refl _ _)
    exact show K (a.put o.dst (.slice (some ⟨g, 0, none⟩) k cap)) w by simpa using this

theorem heap_two_new (w : World) (X Y : Obj) : ((w.alloc X).alloc Y).heap[w.heap.size + 1]? = some Y := by
  have := heap_alloc_new (w.alloc X) Y
  simpa using this

theorem news_at {w : World} {B : Nat} {cs : Array Value} {t : TypeId} {fr : Nat × Nat} (hb : w.heap[B]? = some (.cells cs t fr)) : ∀ ad, some (⟨B, 0, none⟩ : Addr) = some ad → ∀ j u, cs.toList[j]? = some u → w.cell? (ad.add j) = some u := by
  intro ad h
  cases h
  exact World.news_of_block hb

/-- The cells of the first k edits, in a row. -/
def RowE (w : World) (es : List Ed) (k : Nat) (xs : List Value) : Prop :=
  ∀ j, j < k → ∃ u, xs[j * 3]? = some (.int .i64 ((es.getD j (0, 0, [])).1 : Int)) ∧ xs[j * 3 + 1]? = some (.int .i64 ((es.getD j (0, 0, [])).2.1 : Int)) ∧ xs[j * 3 + 2]? = some u ∧ IsB .u8 w u (es.getD j (0, 0, [])).2.2

theorem RowE.snoc {w : World} {es : List Ed} {k : Nat} {xs : List Value} (h : RowE w es k xs) (hl : xs.length = k * 3) (u : Value) (hu : IsB .u8 w u (es.getD k (0, 0, [])).2.2) :
    RowE w es (k + 1) (xs ++ [.int .i64 ((es.getD k (0, 0, [])).1 : Int), .int .i64 ((es.getD k (0, 0, [])).2.1 : Int), u]) := by
  intro j hj
  by_cases hjk : j < k
  · obtain ⟨y, h1, h2, h3, h4⟩ := h j hjk
    refine ⟨y, ?_, ?_, ?_, h4⟩
    · rw [List.getElem?_append_left (by omega)]; exact h1
    · rw [List.getElem?_append_left (by omega)]; exact h2
    · rw [List.getElem?_append_left (by omega)]; exact h3
  · obtain rfl : j = k := by omega
    refine ⟨u, ?_, ?_, ?_, hu⟩
    · rw [List.getElem?_append_right (by omega), show j * 3 - xs.length = 0 by omega]; rfl
    · rw [List.getElem?_append_right (by omega), show j * 3 + 1 - xs.length = 1 by omega]; rfl
    · rw [List.getElem?_append_right (by omega), show j * 3 + 2 - xs.length = 2 by omega]; rfl

theorem isE_of_own {w0 w : World} {base : Nat} {g n cap : Nat} {es : List Ed} {xs : List Value} (h : w.ownsRow base 37 3 (.slice (some ⟨g, 0, none⟩) n cap) n xs) (hn : es.length = n) (hr : RowE w0 es n xs) (hb : Below w0.heap.size w0 w) :
    IsE w (.slice (some ⟨g, 0, none⟩) n cap) es := by
  subst hn
  rcases h.2 with ⟨h', _⟩ | ⟨g', cap', cur, h', _, _, h1, h2, _⟩
  · simp at h'
  · simp only [Value.slice.injEq, Option.some.injEq, Addr.mk.injEq, and_true, true_and] at h'
    obtain ⟨rfl, rfl⟩ := h'
    refine ⟨_, g, 0, cap, rfl, h1, h2, (fun h => by cases h), fun _ => rfl, fun i hi => ?_⟩
    obtain ⟨u, e1, e2, e3, e4⟩ := hr i hi
    refine ⟨u, ?_, ?_, ?_, e4.below hb⟩
    · rw [Nat.zero_add, h.cellAt _ (by omega)]; exact e1
    · rw [Nat.zero_add, h.cellAt _ (by omega)]; exact e2
    · rw [Nat.zero_add, h.cellAt _ (by omega)]; exact e3

theorem getD_map {α β : Type} (f : α → β) (l : List α) (k : Nat) (d : α) (d' : β) (hk : k < l.length) : (l.map f).getD k d' = f (l.getD k d) := by
  simp [List.getD, hk]

set_option maxRecDepth 100000 in
set_option maxHeartbeats 1600000 in
theorem edits_any (va vl vt : Value) (es : List Ed) (w : World) (Ha : IsB .i64 w va (es.map fun e => (e.1 : Int))) (Hl : IsB .i64 w vl (es.map fun e => (e.2.1 : Int))) (Ht : IsT w vt (es.map fun e => e.2.2)) (hn : es.length ≤ 1048576) :
    Calls Trym.prog 13 #[va, vl, vt] w fun e w' => ∃ v', e = .returned v' ∧ IsE w' v' es ∧ Below w.heap.size w w' := by
  obtain ⟨ao1, b1, off1, cap1, rfl, hlc1, hcm1, _, hao1, hcell1⟩ := Ha
  obtain ⟨ao2, b2, off2, cap2, rfl, hlc2, hcm2, _, hao2, hcell2⟩ := Hl
  obtain ⟨ao3, b3, off3, cap3, rfl, hlc3, hcm3, _, hao3, hcell3⟩ := Ht
  obtain ⟨n, hzn⟩ : ∃ n, es.length = n := ⟨_, rfl⟩
  have HZ : Hid (es.length = n) := hzn
  simp only [List.length_map] at hlc1 hlc2 hlc3 hao1 hao2 hao3 hcell1 hcell2 hcell3
  simp only [List.length_map]
  rw [hzn] at hn hlc1 hlc2 hlc3 hao1 hao2 hao3 hcell1 hcell2 hcell3 ⊢
  clear hzn hcm1 hcm2 hcm3 hlc1 hlc2 hlc3
  obtain ⟨i0, hi, hz0, hz1, hz2⟩ := info_parts Trym.info37
  go_enter Trym.func13, Trym.ntmps13
  go_wp2_with (at_make; refine wpList_make_own _ rfl _ _ 32 rfl w.heap.size 37 i0 (.agg #[.int .i64 0, .int .i64 0, .slice none 0 0]) 3 Trym.underlying32 hi hz0 hz1 _ _ _ n rfl rfl (by omega) ?b1 ?b2 ?b3 ?_)
  case b1 => rw [hz2]; omega
  case b2 => unfold maxLen; omega
  case b3 => exact Nat.le_refl _
  intro w1 hown hgrow
  have hb1 : Below w.heap.size w w1 := (Below.refl _ _).grown hgrow (Nat.le_refl _) (fun k h => by cases h)
  clear hgrow
  go_wp2
  go_loopw [7, 8] (fun v i wr => ∃ (k : Nat) (xs : List Value), k ≤ n ∧ i = .int .i64 k ∧ v = .slice (some ⟨w.heap.size, 0, none⟩) k n ∧ wr.ownsRow w.heap.size 37 3 (.slice (some ⟨w.heap.size, 0, none⟩) k n) k xs ∧ RowE w es k xs ∧ Below w.heap.size w wr)
    (fun _ i _ => n - (intOf i).toNat)
  case atStart => exact ⟨0, [], Nat.zero_le _, rfl, rfl, hown, fun j h => absurd h (by omega), hb1⟩
  case round =>
    obtain ⟨k, xs, hk, rfl, rfl, hownk, hrow, hb⟩ := hrel
    clear hown hb1
    by_cases hlt : k < n
    · obtain rfl := hao1 (by omega)
      obtain rfl := hao2 (by omega)
      obtain rfl := hao3 (by omega)
      have hkl : k < es.length := by have := HZ.out; omega
      have hc1 := hcell1 k hlt
      have hc2 := hcell2 k hlt
      obtain ⟨u, hc3, hBu⟩ := hcell3 k hlt
      rw [getD_map _ es k (0, 0, []) _ hkl] at hc1 hc2 hBu
      have hsn := hrow.snoc (by have := hownk.1; omega) u hBu
      obtain ⟨aou, capu, hsh⟩ := hBu.shape
      obtain ⟨mu, hmu⟩ : ∃ m, (es.getD k (0, 0, [])).2.2.length = m := ⟨_, rfl⟩
      rw [hmu] at hsh
      subst hsh
      obtain ⟨a, ha⟩ : ∃ a, (es.getD k (0, 0, [])).1 = a := ⟨_, rfl⟩
      obtain ⟨l, hl⟩ : ∃ l, (es.getD k (0, 0, [])).2.1 = l := ⟨_, rfl⟩
      rw [ha] at hc1 hsn
      rw [hl] at hc2 hsn
      have hlt1 := World.block_lt_of_cell? w _ hc1
      have hlt2 := World.block_lt_of_cell? w _ hc2
      have hlt3 := World.block_lt_of_cell? w _ hc3
      have hd1 : wr.cell? ⟨b1, off1 + k, none⟩ = some (.int .i64 a) := (hb.cell (p := ⟨b1, off1 + k, none⟩) hlt1).trans hc1
      have hd2 : wr.cell? ⟨b2, off2 + k, none⟩ = some (.int .i64 l) := (hb.cell (p := ⟨b2, off2 + k, none⟩) hlt2).trans hc2
      have hd3 : wr.cell? ⟨b3, off3 + k, none⟩ = some (.slice aou mu capu) := (hb.cell (p := ⟨b3, off3 + k, none⟩) hlt3).trans hc3
      have hsz : w.heap.size < wr.heap.size := (hownk.lt _ rfl).2
      have HA : Hid _ := And.intro hsn hb
      have h0 : (0 : Int) ≤ (k : Int) := by omega
      have h1 : (k : Int) < (n : Int) := by omega
      clear hsn hb hrow hBu ha hl hmu hc1 hc2 hc3 hcell1 hcell2 hcell3 hao1 hao2 hao3
      go_wp2_with fail
      go_region_held3 (fun w' => w'.cell? ⟨b1, off1 + k, none⟩ = some (.int .i64 a) ∧ w'.cell? ⟨b2, off2 + k, none⟩ = some (.int .i64 l) ∧ w'.cell? ⟨b3, off3 + k, none⟩ = some (.slice aou mu capu))
        (first | go_keep | (go_split_ands; refine ⟨?_, ?_, ?_⟩ <;> (rw [hgr.cell_far _ (by simp; omega) (by simp; omega)]; go_keep)))
        (first
          | (go_at_call 17; refine (makeEdit_any _ _ _ _ _ _).mono ?_; rintro e w' ⟨rfl, rfl⟩)
          | (refine step_append_fits (by rfl) _ _ _ (by rfl) w.heap.size 37 i0 3 Trym.underlying32 hi hz1 w.heap.size k n xs (by rfl) (by exact (hownk.alloc _).alloc _) (some ⟨wr.heap.size + 1, 0, none⟩) 1 1 [.int .i64 a, .int .i64 l, .slice aou mu capu] (by rfl) (by rfl) (by intro h; cases h) (by exact news_at (cs := #[.int .i64 a, .int .i64 l, .slice aou mu capu]) (t := 37) (fr := (0, 0)) (heap_two_new _ _ _)) (by simp [Value.oneCell']) (by omega) ?_; intro w2 hown2 hgr))
      have R : Hid _ := And.intro hown2 (And.intro HA.out.1 ((HA.out.2.alloc (by omega) (.cells #[.int .i64 a, .int .i64 l, .slice aou mu capu] 37)).alloc (by simp; omega) (.cells #[.int .i64 a, .int .i64 l, .slice aou mu capu] 37)))
      have HGR : Hid _ := hgr
      have hsz2 : w.heap.size ≤ wr.heap.size := by omega
      clear hown2 hgr hownk hd1 hd2 hd3 HA
      go_wp2
      go_roundw
      case rel => exact ⟨k + 1, _, by omega, by go_num, rfl, R.out.1, R.out.2.1, R.out.2.2.drew.grown (row := some w.heap.size) HGR.out (by simp; omega) (fun j h => by have := Option.some.inj h; omega)⟩
      case measure => simp [intOf]; omega
    · obtain rfl : k = n := by omega
      have R : Hid _ := And.intro (isE_of_own hownk HZ.out hrow hb) hb
      clear hownk hrow hb hcell1 hcell2 hcell3 hao1 hao2 hao3
      go_wp2
      go_ret
      exact ⟨_, rfl, R.out.1, R.out.2⟩
end Go.Proofs.Qxb6000822aMods

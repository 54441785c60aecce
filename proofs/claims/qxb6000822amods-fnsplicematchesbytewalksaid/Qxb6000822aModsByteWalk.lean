/-
  SEAT b6000822aM: the byte walk, walked: it computes spl too.
-/
import Derived.Test.Qxb6000822aModsSplice
import Derived.Test.Qxb6000822aModsLaws
import Derived.Laws.AppendOwnNone
namespace Go.Proofs.Qxb6000822aMods
open Go.RowKit

/-- append onto a row of the call's own, whatever the source. -/
theorem wpList_append_own_src {P : Program} (w : World) {ops : Array Oper} {rest : List Oper} {o : Oper} {a : Act} {Q : Exit → Act → World → Prop} (hgd : o.guard = none) (s x : Operand) (t : TypeId)
    (ho : o.op = .call { callee := .builtin .append, args := #[s, x], argTypes := #[t, t] })
    (base : Nat) (e : TypeId) (i : TypeInfo) (z : Value) (size bytes : Nat) (ht : P.underlying t = some (.slice e)) (hi : P.info? e = some i) (hz : i.zero = some z)
    (hsize : i.size = size) (hby : i.bytes = bytes) (hzs : z.cells.size = size) (hsz : 0 < size)
    (v : Value) (n : Nat) (xs : List Value) (hs : a.eval s = v) (hown : w.ownsRow base e size v n xs)
    (ao : Option Addr) (m c : Nat) (news : List Value) (hx : a.eval x = .slice ao m c) (hl : news.length = m * size) (hnone : ao = none → m = 0 ∧ c = 0) (hnews : ∀ ad, ao = some ad → ∀ j u, news[j]? = some u → w.cell? (ad.add j) = some u) (h1 : ∀ u ∈ news, u.oneCell' = true)
    (h63 : n + m ≤ maxLen) (hbytes : (n + m) * bytes ≤ 140737488355328) (hbase : base ≤ w.heap.size)
    (h : ∀ v' w', w'.ownsRow base e size v' (n + m) (xs ++ news) → w.grownBy w' v.ownBlock → wpList P ops Q rest (a.put o.dst v') w') : wpList P ops Q (o :: rest) a w := by
  cases ao with
  | some ad => exact wpList_append_own w hgd s x t ho base e i z size bytes ht hi hz hsize hby hzs hsz v n xs hs hown ad m c news hx hl (hnews ad rfl) h1 h63 hbytes hbase fun v' w' h2 h3 _ => h v' w' h2 h3
  | none =>
    obtain ⟨rfl, rfl⟩ := hnone rfl
    have hnn : news = [] := List.eq_nil_of_length_eq_zero (by simpa using hl)
    subst hnn
    exact wpList_append_own_none hgd s x t ho base e i size ht hi v n xs hs hown hx (h v w (by simpa using hown) (World.grownBy.refl _ _))

theorem isB_of_owns {k : IntKind} {w : World} {base : Nat} {e : TypeId} {v : Value} {zs : List Int} (h : w.ownsRow base e 1 v zs.length (zs.map (Value.int k))) : IsB k w v zs := by
  have h' := h
  rcases h.2 with ⟨rfl, hn⟩ | ⟨g, cap, cur, rfl, _⟩
  · obtain rfl := List.eq_nil_of_length_eq_zero hn
    exact IsB.nil _ _
  · exact isB_of_own h' rfl

theorem below_own {B : Nat} {w0 w w' : World} {e : TypeId} {size n : Nat} {v : Value} {xs : List Value} (h : Below B w0 w) (hB : B ≤ w.heap.size) (ho : w.ownsRow B e size v n xs) (hg : w.grownBy w' v.ownBlock) : Below B w0 w' :=
  h.grown hg hB (fun k hk => (ho.lt k hk).1)

set_option maxRecDepth 100000 in
set_option maxHeartbeats 1600000 in
theorem walk15 (vd va vl vt : Value) (doc : List Int) (es : List Ed) (w : World) (Hd : IsB .u8 w vd doc) (Ha : IsB .i64 w va (es.map fun e => (e.1 : Int))) (Hl : IsB .i64 w vl (es.map fun e => (e.2.1 : Int))) (Ht : IsT w vt (es.map fun e => e.2.2))
    (hv : Valid doc.length 0 es) (gd : doc.length ≤ 1099511627776) (gn : es.length ≤ 1048576) (gt : tl es ≤ 1099511627776) :
    Calls Trym.prog 15 #[vd, va, vl, vt] w fun e w' => ∃ v', e = .returned v' ∧ IsB .u8 w' v' (spl doc 0 es) ∧ Below w.heap.size w w' := by
  obtain ⟨ao0, b0, off0, cap0, rfl, hlc0, hcm0, _, hao0, hcell0⟩ := Hd
  obtain ⟨ao1, b1, off1, cap1, rfl, hlc1, hcm1, _, hao1, hcell1⟩ := Ha
  obtain ⟨ao2, b2, off2, cap2, rfl, hlc2, hcm2, _, hao2, hcell2⟩ := Hl
  obtain ⟨ao3, b3, off3, cap3, rfl, hlc3, hcm3, _, hao3, hcell3⟩ := Ht
  obtain ⟨n, hzn⟩ : ∃ n, es.length = n := ⟨_, rfl⟩
  obtain ⟨d, hd⟩ : ∃ n, doc.length = n := ⟨_, rfl⟩
  have HZ : Hid (es.length = n) := hzn
  have HD : Hid (doc.length = d) := hd
  have hspl := spl_length hv (Nat.zero_le _)
  have hbd := siz_drop_bd hv (Nat.zero_le _) 0
  rw [List.drop_zero] at hbd
  simp only [List.length_map] at hao1 hao2 hao3 hcell1 hcell2 hcell3 ⊢
  rw [hzn] at gn hao1 hao2 hao3 hcell1 hcell2 hcell3 ⊢
  rw [hd] at gd hao0 hcell0 hv hspl hbd ⊢
  have hL : (spl doc 0 es).length ≤ 4398046511104 := by omega
  have HV : Hid (Valid d 0 es) := hv
  clear hzn hd hcm0 hcm1 hcm2 hcm3 hlc0 hlc1 hlc2 hlc3 hspl hbd hv
  obtain ⟨i0, hi, hz0, hz1, hz2⟩ := info_parts Trym.info5
  go_enter Trym.func15, Trym.ntmps15
  go_wp2
  go_loopw [9, 10, 11] (fun ov iv kv wr => ∃ (k i : Nat) (o : List Int), k ≤ n ∧ i ≤ d ∧ iv = .int .i64 i ∧ kv = .int .i64 k ∧ wr.ownsRow w.heap.size 5 1 ov o.length (o.map (Value.int .u8)) ∧
      o ++ spl doc i (es.drop k) = spl doc 0 es ∧ Valid d i (es.drop k) ∧ Below w.heap.size w wr)
    (fun _ iv kv _ => (d - (intOf iv).toNat) + (n - (intOf kv).toNat))
  case atStart => exact ⟨0, 0, [], Nat.zero_le _, Nat.zero_le _, rfl, rfl, World.ownsRow_lit w #[] 0 (Nat.le_refl _) (Nat.zero_le _) rfl, rfl, by simpa using HV.out, (Below.refl _ _).alloc (Nat.le_refl _) _⟩
  case round =>
    obtain ⟨k, i, o, hk, hid, rfl, rfl, hown, hsp, hvk, hb⟩ := hrel
    have hol : o.length + (spl doc i (es.drop k)).length = (spl doc 0 es).length := by rw [← hsp, List.length_append]
    by_cases hkn : k < n
    · have hkl : k < es.length := by have := HZ.out; omega
      obtain rfl := hao1 (by omega)
      obtain rfl := hao2 (by omega)
      obtain rfl := hao3 (by omega)
      have hc1 := hcell1 k hkn
      have hc2 := hcell2 k hkn
      obtain ⟨u, hc3, hBu⟩ := hcell3 k hkn
      rw [getD_map _ es k (0, 0, []) _ hkl] at hc1 hc2 hBu
      obtain ⟨hv1, hv2, hv3⟩ := valid_drop hkl hvk
      obtain ⟨t, ht⟩ : ∃ t, (es.getD k (0, 0, [])).2.2 = t := ⟨_, rfl⟩
      obtain ⟨a, ha⟩ : ∃ a, (es.getD k (0, 0, [])).1 = a := ⟨_, rfl⟩
      obtain ⟨l, hl⟩ : ∃ l, (es.getD k (0, 0, [])).2.1 = l := ⟨_, rfl⟩
      rw [ha] at hc1 hv1 hv2 hv3
      rw [hl] at hc2 hv2 hv3
      rw [ht] at hBu
      have hd1 : wr.cell? ⟨b1, off1 + k, none⟩ = some (.int .i64 a) := (hb.cell (p := ⟨b1, off1 + k, none⟩) (World.block_lt_of_cell? w _ hc1)).trans hc1
      by_cases hai : a = i
      · subst hai
        have hsp2 := hsp
        rw [spl_drop doc a es k hkl, ha, hl, ht, Nat.sub_self, List.take_zero, List.nil_append] at hsp2
        have hdb2 : w.cell? ⟨b2, off2 + k, none⟩ = some (.int .i64 l) := hc2
        obtain ⟨aou, capu, hsh⟩ := hBu.shape
        subst hsh
        have hd3 : wr.cell? ⟨b3, off3 + k, none⟩ = some (.slice aou t.length capu) := (hb.cell (p := ⟨b3, off3 + k, none⟩) (World.block_lt_of_cell? w _ hc3)).trans hc3
        have hlen2 := congrArg List.length hsp2
        simp only [List.length_append] at hlen2
        have hbnd : o.length + t.length ≤ 4398046511104 := by omega
        have HA : Hid _ := And.intro hb (And.intro hsp2 (And.intro hv3 (hBu.below hb)))
        have hbs := hb.size
        have hlt2 := World.block_lt_of_cell? w _ hc2
        clear hsp hsp2 hlen2 hvk hv3 hb hBu hol hcell0 hcell1 hcell2 hcell3 hao0 hao1 hao2 hao3 hc1 hc3 ha hl ht
        by_cases hidd : a < d
        all_goals
          go_wp2_with (at_builtin; refine wpList_append_own_src _ rfl (.tmp 35) (.tmp 39) 22 rfl w.heap.size 5 i0 (.int .u8 0) 1 1 Trym.underlying22 hi hz0 hz1 hz2 rfl (by decide) _ o.length (o.map (Value.int .u8)) rfl hown aou t.length capu (t.map (Value.int .u8)) rfl (by simp) HA.out.2.2.2.src.1 HA.out.2.2.2.src.2 (ints_oneCell _ _) (by unfold maxLen; omega) (by omega) hbs ?_)
          intro v' w2 hown2 hgr
          have hb2 : Below w.heap.size w w2 := below_own HA.out.1 hbs hown hgr
          have hd2 : w2.cell? ⟨b2, off2 + k, none⟩ = some (.int .i64 l) := (hb2.cell (p := ⟨b2, off2 + k, none⟩) hlt2).trans hdb2
          have R : Hid (w2.ownsRow w.heap.size 5 1 v' (o ++ t).length ((o ++ t).map (Value.int .u8)) ∧ Below w.heap.size w w2) := ⟨by simpa using hown2, hb2⟩
          clear hown2 hgr hb2 hown hd1 hd3 hdb2
          go_wp2
          go_roundw
          case rel => exact ⟨k + 1, a + l, o ++ t, by omega, by omega, by go_num, by go_num, R.out.1, by rw [← HA.out.2.1]; simp, HA.out.2.2.1, R.out.2⟩
          case measure => simp [intOf]; omega
      · have hne : ((a : Int) == (i : Int)) = false := by simp; omega
        obtain rfl := hao0 (by omega)
        have hil : i < doc.length := by have := HD.out; omega
        obtain ⟨hs1, hs2⟩ := spl_byte hil (by rw [HD.out]; exact hvk) (by intro e es' he; rw [drop_cons es k hkl] at he; have := (List.cons.inj he).1; rw [← this, ha]; omega)
        rw [HD.out] at hs2
        obtain ⟨z, hz'⟩ : ∃ z, doc.getD i 0 = z := ⟨_, rfl⟩
        have hc0 := hcell0 i (by omega)
        rw [hz'] at hc0 hs1
        have hd0 : wr.cell? ⟨b0, off0 + i, none⟩ = some (.int .u8 z) := (hb.cell (p := ⟨b0, off0 + i, none⟩) (World.block_lt_of_cell? w _ hc0)).trans hc0
        have hsp2 := hsp
        rw [hs1] at hsp2 hol
        simp only [List.length_cons] at hol
        have hbnd : o.length + 1 ≤ 4398046511104 := by omega
        have HA : Hid _ := And.intro hb (And.intro hsp2 hs2)
        have hbs := hb.size
        clear hsp hsp2 hvk hb hol hcell0 hcell1 hcell2 hcell3 hao0 hao1 hao2 hao3 hs1 hs2 hc0 hz' hc1 hc2 hc3 ha hl ht hBu hv3
        go_wp2_with (at_builtin; refine wpList_append_own_src _ rfl (.tmp 53) (.tmp 58) 22 rfl w.heap.size 5 i0 (.int .u8 0) 1 1 Trym.underlying22 hi hz0 hz1 hz2 rfl (by decide) _ o.length (o.map (Value.int .u8)) rfl (hown.alloc _) (some ⟨wr.heap.size, 0, none⟩) 1 1 [.int .u8 z] rfl rfl (by intro h; cases h) (news_at (cs := #[.int .u8 z]) (t := 5) (fr := (0, 0)) (heap_alloc_new wr _)) (by simp [Value.oneCell']) (by unfold maxLen; omega) (by omega) (by simp; omega) ?_)
        intro v' w2 hown2 hgr
        have hb2 : Below w.heap.size w w2 := below_own (HA.out.1.alloc hbs _) (by simp; omega) (hown.alloc _) hgr
        have R : Hid (w2.ownsRow w.heap.size 5 1 v' (o ++ [z]).length ((o ++ [z]).map (Value.int .u8)) ∧ Below w.heap.size w w2) := ⟨by simpa using hown2, hb2⟩
        clear hown2 hgr hb2 hown hd0 hd1
        go_wp2
        go_roundw
        case rel => exact ⟨k, i + 1, o ++ [z], by omega, by omega, by go_num, by go_num, R.out.1, by rw [← HA.out.2.1]; simp, HA.out.2.2, R.out.2⟩
        case measure => simp [intOf]; omega
    · by_cases hidd : i < d
      · obtain rfl := hao0 (by omega)
        have hil : i < doc.length := by have := HD.out; omega
        obtain ⟨hs1, hs2⟩ := spl_byte hil (by rw [HD.out]; exact hvk) (by intro e es' he; rw [List.drop_eq_nil_of_le (by have := HZ.out; omega)] at he; cases he)
        rw [HD.out] at hs2
        obtain ⟨z, hz'⟩ : ∃ z, doc.getD i 0 = z := ⟨_, rfl⟩
        have hc0 := hcell0 i (by omega)
        rw [hz'] at hc0 hs1
        have hd0 : wr.cell? ⟨b0, off0 + i, none⟩ = some (.int .u8 z) := (hb.cell (p := ⟨b0, off0 + i, none⟩) (World.block_lt_of_cell? w _ hc0)).trans hc0
        have hsp2 := hsp
        rw [hs1] at hsp2 hol
        simp only [List.length_cons] at hol
        have hbnd : o.length + 1 ≤ 4398046511104 := by omega
        have HA : Hid _ := And.intro hb (And.intro hsp2 hs2)
        have hbs := hb.size
        clear hsp hsp2 hvk hb hol hcell0 hcell1 hcell2 hcell3 hao0 hao1 hao2 hao3 hs1 hs2 hc0 hz'
        go_wp2_with (at_builtin; refine wpList_append_own_src _ rfl (.tmp 53) (.tmp 58) 22 rfl w.heap.size 5 i0 (.int .u8 0) 1 1 Trym.underlying22 hi hz0 hz1 hz2 rfl (by decide) _ o.length (o.map (Value.int .u8)) rfl (hown.alloc _) (some ⟨wr.heap.size, 0, none⟩) 1 1 [.int .u8 z] rfl rfl (by intro h; cases h) (news_at (cs := #[.int .u8 z]) (t := 5) (fr := (0, 0)) (heap_alloc_new wr _)) (by simp [Value.oneCell']) (by unfold maxLen; omega) (by omega) (by simp; omega) ?_)
        intro v' w2 hown2 hgr
        have hb2 : Below w.heap.size w w2 := below_own (HA.out.1.alloc hbs _) (by simp; omega) (hown.alloc _) hgr
        have R : Hid (w2.ownsRow w.heap.size 5 1 v' (o ++ [z]).length ((o ++ [z]).map (Value.int .u8)) ∧ Below w.heap.size w w2) := ⟨by simpa using hown2, hb2⟩
        clear hown2 hgr hb2 hown hd0
        go_wp2
        go_roundw
        case rel => exact ⟨k, i + 1, o ++ [z], by omega, by omega, by go_num, by go_num, R.out.1, by rw [← HA.out.2.1]; simp, HA.out.2.2, R.out.2⟩
        case measure => simp [intOf]; omega
      · have hkn' : es.drop k = [] := List.drop_eq_nil_of_le (by have := HZ.out; omega)
        rw [hkn'] at hsp
        have hdn : doc.drop i = [] := List.drop_eq_nil_of_le (by have := HD.out; omega)
        have he : o = spl doc 0 es := by rw [← hsp]; simp [spl, hdn]
        have R : Hid _ := And.intro (isB_of_owns hown) hb
        have HE : Hid _ := he
        clear hsp hvk hb hol hcell0 hcell1 hcell2 hcell3 hao0 hao1 hao2 hao3 hown hkn' hdn he
        go_wp2
        go_ret
        exact ⟨_, rfl, by rw [← HE.out]; exact R.out.1, R.out.2⟩
end Go.Proofs.Qxb6000822aMods

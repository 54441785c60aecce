/-
  SEAT b6000822aM: the guards of the splice laws: the bound on the lengths, the size, the edits' order.
-/
import Derived.Test.Qxb6000822aModsClone
namespace Go.Proofs.Qxb6000822aMods
open Go.RowKit

def totL : List (List Int) → Nat
  | [] => 0
  | t :: ts => t.length + totL ts

theorem totL_drop (ts : List (List Int)) (k : Nat) (hk : k < ts.length) : totL (ts.drop k) = (ts.getD k []).length + totL (ts.drop (k + 1)) := by
  rw [List.drop_eq_getElem_cons hk]
  simp [totL, List.getD, hk]

theorem totL_end (ts : List (List Int)) (k : Nat) (hk : ts.length ≤ k) : totL (ts.drop k) = 0 := by
  rw [List.drop_eq_nil_of_le hk]; rfl

/-- It answers a bool, which is true only where P holds; the world is as it was. -/
def Answers (P : Prop) (w : World) (e : Ending) (w' : World) : Prop := ∃ r, e = .returned (.bool r) ∧ (r = true → P) ∧ w' = w
def AnswersInt (w : World) (e : Ending) (w' : World) : Prop := ∃ r : Int, e = .returned (.int .i64 r) ∧ w' = w
theorem answers_no {P : Prop} {w : World} : Answers P w (.returned (.bool false)) w := ⟨false, rfl, fun h => (by cases h), rfl⟩
theorem answers_yes {P : Prop} {w : World} (h : P) : Answers P w (.returned (.bool true)) w := ⟨true, rfl, fun _ => h, rfl⟩

/-- The edits stand in order, each inside the first 'd' places and none over the one before: of the two lists as they came in. -/
def ValidI (d : Int) : Int → List Int → List Int → Prop
  | prev, a :: xs, l :: ls => prev ≤ a ∧ a ≤ d ∧ 0 ≤ l ∧ l ≤ d - a ∧ ValidI d (a + l) xs ls
  | _, [], [] => True
  | _, _, _ => False

theorem validI_step (d prev : Int) (xs ls : List Int) (k : Nat) (ha : k < xs.length) (hl : k < ls.length) (h1 : prev ≤ xs.getD k 0) (h2 : xs.getD k 0 ≤ d) (h3 : 0 ≤ ls.getD k 0) (h4 : ls.getD k 0 ≤ d - xs.getD k 0)
    (h : ValidI d (xs.getD k 0 + ls.getD k 0) (xs.drop (k + 1)) (ls.drop (k + 1))) : ValidI d prev (xs.drop k) (ls.drop k) := by
  rw [List.drop_eq_getElem_cons ha, List.drop_eq_getElem_cons hl]
  simp only [List.getD, List.getElem?_eq_getElem ha, List.getElem?_eq_getElem hl, Option.getD_some] at h1 h2 h3 h4 h
  exact ⟨h1, h2, h3, h4, h⟩

theorem validI_end (d prev : Int) (xs ls : List Int) (k : Nat) (ha : xs.length ≤ k) (hl : ls.length ≤ k) : ValidI d prev (xs.drop k) (ls.drop k) := by
  rw [List.drop_eq_nil_of_le ha, List.drop_eq_nil_of_le hl]; trivial

set_option maxHeartbeats 1000000 in
theorem bytes6_any (v0 v1 v2 v3 : Value) (z0 z1 z2 : List Int) (ts : List (List Int)) (w : World) (H0 : IsB .u8 w v0 z0) (H1 : IsB .i64 w v1 z1) (H2 : IsB .i64 w v2 z2) (H3 : IsT w v3 ts) :
    Calls Trym.prog 6 #[v0, v1, v2, v3] w fun e w' => Answers (z0.length ≤ 1048576 ∧ z1.length ≤ 1048576 ∧ z2.length ≤ 1048576 ∧ ts.length ≤ 1048576 ∧ totL ts ≤ 1048576) w e w' := by
  obtain ⟨ao0, b0, off0, cap0, rfl, hlc0, hcm0, _, _, _⟩ := H0
  obtain ⟨ao1, b1, off1, cap1, rfl, hlc1, hcm1, _, _, _⟩ := H1
  obtain ⟨ao2, b2, off2, cap2, rfl, hlc2, hcm2, _, _, _⟩ := H2
  obtain ⟨ao, b, off, cap, rfl, hlc, hcm, _, hao, hcell⟩ := H3
  obtain ⟨n0, e0⟩ : ∃ n, z0.length = n := ⟨_, rfl⟩
  obtain ⟨n1, e1⟩ : ∃ n, z1.length = n := ⟨_, rfl⟩
  obtain ⟨n2, e2⟩ : ∃ n, z2.length = n := ⟨_, rfl⟩
  obtain ⟨n, hzn⟩ : ∃ n, ts.length = n := ⟨_, rfl⟩
  have HZ : Hid (ts.length = n) := hzn
  rw [e0] at hlc0 ⊢
  rw [e1] at hlc1 ⊢
  rw [e2] at hlc2 ⊢
  rw [hzn] at hlc hao hcell ⊢
  clear hzn e0 e1 e2
  unfold maxLen at hcm0 hcm1 hcm2 hcm
  by_cases hin : n0 ≤ 1048576 ∧ n0 + n1 ≤ 1048576 ∧ n0 + n1 + n2 ≤ 1048576 ∧ n0 + n1 + n2 + n ≤ 1048576
  · obtain ⟨g0, g1, g2, g3⟩ := hin
    clear hlc0 hcm0 hlc1 hcm1 hlc2 hcm2
    go_enter Trym.func6, Trym.ntmps6
    go_wp2
    go_loop [9, 10] (fun s i => ∃ k t : Nat, k ≤ n ∧ i = .int .i64 k ∧ s = .int .i64 t ∧ t ≤ 1048576 ∧ t + totL (ts.drop k) = n0 + n1 + n2 + n + totL ts) (fun _ i => n - (intOf i).toNat)
    case atStart => exact ⟨0, n0 + n1 + n2 + n, Nat.zero_le _, rfl, by go_num, by omega, by simp⟩
    case round =>
      obtain ⟨k, t, hk, rfl, rfl, ht, hsum⟩ := hrel
      by_cases hlt : k < n
      · obtain rfl := hao (by omega)
        obtain ⟨u, hu, hBu⟩ := hcell k hlt
        obtain ⟨aou, bu, offu, capu, rfl, hlu, hcu, _, _, _⟩ := hBu
        have hst := totL_drop ts k (by have := HZ.out; omega)
        obtain ⟨m, hm⟩ : ∃ m, (ts.getD k []).length = m := ⟨_, rfl⟩
        rw [hm] at hst hu hlu
        unfold maxLen at hcu
        have HS : Hid (t + (m + totL (ts.drop (k + 1))) = n0 + n1 + n2 + n + totL ts) := by rw [← hst]; exact hsum
        clear hst hsum hao hcell hm
        by_cases hbig : m ≤ 1048576 ∧ t + m ≤ 1048576
        · obtain ⟨hb1, hb2⟩ := hbig
          go_wp2
          go_round
          case rel => exact ⟨k + 1, t + m, by omega, by go_num, by go_num, by omega, by have := HS.out; omega⟩
          case measure => simp [intOf]; omega
        · go_wp2
          all_goals first | (exfalso; omega) | (go_ret; exact answers_no)
      · clear hao hcell
        have hend := totL_end ts k (by have := HZ.out; omega)
        have HS : Hid (t = n0 + n1 + n2 + n + totL ts) := by show _ = _; omega
        clear hend hsum
        go_wp2
        go_ret
        exact answers_yes (by have := HS.out; omega)
  · clear hao hcell
    go_enter Trym.func6, Trym.ntmps6
    go_wp2
    all_goals first | (exfalso; omega) | (go_ret; exact answers_no)

set_option maxHeartbeats 1000000 in
theorem bytes16_any (v0 v1 v2 v3 : Value) (z0 z1 z2 : List Int) (ts : List (List Int)) (w : World) (H0 : IsB .u8 w v0 z0) (H1 : IsB .i64 w v1 z1) (H2 : IsB .i64 w v2 z2) (H3 : IsT w v3 ts) :
    Calls Trym.prog 16 #[v0, v1, v2, v3] w fun e w' => Answers (z0.length ≤ 1048576 ∧ z1.length ≤ 1048576 ∧ z2.length ≤ 1048576 ∧ ts.length ≤ 1048576 ∧ totL ts ≤ 1048576) w e w' := by
  obtain ⟨ao0, b0, off0, cap0, rfl, hlc0, hcm0, _, _, _⟩ := H0
  obtain ⟨ao1, b1, off1, cap1, rfl, hlc1, hcm1, _, _, _⟩ := H1
  obtain ⟨ao2, b2, off2, cap2, rfl, hlc2, hcm2, _, _, _⟩ := H2
  obtain ⟨ao, b, off, cap, rfl, hlc, hcm, _, hao, hcell⟩ := H3
  obtain ⟨n0, e0⟩ : ∃ n, z0.length = n := ⟨_, rfl⟩
  obtain ⟨n1, e1⟩ : ∃ n, z1.length = n := ⟨_, rfl⟩
  obtain ⟨n2, e2⟩ : ∃ n, z2.length = n := ⟨_, rfl⟩
  obtain ⟨n, hzn⟩ : ∃ n, ts.length = n := ⟨_, rfl⟩
  have HZ : Hid (ts.length = n) := hzn
  rw [e0] at hlc0 ⊢
  rw [e1] at hlc1 ⊢
  rw [e2] at hlc2 ⊢
  rw [hzn] at hlc hao hcell ⊢
  clear hzn e0 e1 e2
  unfold maxLen at hcm0 hcm1 hcm2 hcm
  by_cases hin : n0 ≤ 1048576 ∧ n0 + n1 ≤ 1048576 ∧ n0 + n1 + n2 ≤ 1048576 ∧ n0 + n1 + n2 + n ≤ 1048576
  · obtain ⟨g0, g1, g2, g3⟩ := hin
    clear hlc0 hcm0 hlc1 hcm1 hlc2 hcm2
    go_enter Trym.func16, Trym.ntmps16
    go_wp2
    go_loop [9, 10] (fun s i => ∃ k t : Nat, k ≤ n ∧ i = .int .i64 k ∧ s = .int .i64 t ∧ t ≤ 1048576 ∧ t + totL (ts.drop k) = n0 + n1 + n2 + n + totL ts) (fun _ i => n - (intOf i).toNat)
    case atStart => exact ⟨0, n0 + n1 + n2 + n, Nat.zero_le _, rfl, by go_num, by omega, by simp⟩
    case round =>
      obtain ⟨k, t, hk, rfl, rfl, ht, hsum⟩ := hrel
      by_cases hlt : k < n
      · obtain rfl := hao (by omega)
        obtain ⟨u, hu, hBu⟩ := hcell k hlt
        obtain ⟨aou, bu, offu, capu, rfl, hlu, hcu, _, _, _⟩ := hBu
        have hst := totL_drop ts k (by have := HZ.out; omega)
        obtain ⟨m, hm⟩ : ∃ m, (ts.getD k []).length = m := ⟨_, rfl⟩
        rw [hm] at hst hu hlu
        unfold maxLen at hcu
        have HS : Hid (t + (m + totL (ts.drop (k + 1))) = n0 + n1 + n2 + n + totL ts) := by rw [← hst]; exact hsum
        clear hst hsum hao hcell hm
        by_cases hbig : m ≤ 1048576 ∧ t + m ≤ 1048576
        · obtain ⟨hb1, hb2⟩ := hbig
          go_wp2
          go_round
          case rel => exact ⟨k + 1, t + m, by omega, by go_num, by go_num, by omega, by have := HS.out; omega⟩
          case measure => simp [intOf]; omega
        · go_wp2
          all_goals first | (exfalso; omega) | (go_ret; exact answers_no)
      · clear hao hcell
        have hend := totL_end ts k (by have := HZ.out; omega)
        have HS : Hid (t = n0 + n1 + n2 + n + totL ts) := by show _ = _; omega
        clear hend hsum
        go_wp2
        go_ret
        exact answers_yes (by have := HS.out; omega)
  · clear hao hcell
    go_enter Trym.func16, Trym.ntmps16
    go_wp2
    all_goals first | (exfalso; omega) | (go_ret; exact answers_no)

set_option maxHeartbeats 1000000 in
theorem bytes18_any (v0 v1 v2 v3 : Value) (z0 z1 z2 : List Int) (ts : List (List Int)) (w : World) (H0 : IsB .u8 w v0 z0) (H1 : IsB .i64 w v1 z1) (H2 : IsB .i64 w v2 z2) (H3 : IsT w v3 ts) :
    Calls Trym.prog 18 #[v0, v1, v2, v3] w fun e w' => Answers (z0.length ≤ 1048576 ∧ z1.length ≤ 1048576 ∧ z2.length ≤ 1048576 ∧ ts.length ≤ 1048576 ∧ totL ts ≤ 1048576) w e w' := by
  obtain ⟨ao0, b0, off0, cap0, rfl, hlc0, hcm0, _, _, _⟩ := H0
  obtain ⟨ao1, b1, off1, cap1, rfl, hlc1, hcm1, _, _, _⟩ := H1
  obtain ⟨ao2, b2, off2, cap2, rfl, hlc2, hcm2, _, _, _⟩ := H2
  obtain ⟨ao, b, off, cap, rfl, hlc, hcm, _, hao, hcell⟩ := H3
  obtain ⟨n0, e0⟩ : ∃ n, z0.length = n := ⟨_, rfl⟩
  obtain ⟨n1, e1⟩ : ∃ n, z1.length = n := ⟨_, rfl⟩
  obtain ⟨n2, e2⟩ : ∃ n, z2.length = n := ⟨_, rfl⟩
  obtain ⟨n, hzn⟩ : ∃ n, ts.length = n := ⟨_, rfl⟩
  have HZ : Hid (ts.length = n) := hzn
  rw [e0] at hlc0 ⊢
  rw [e1] at hlc1 ⊢
  rw [e2] at hlc2 ⊢
  rw [hzn] at hlc hao hcell ⊢
  clear hzn e0 e1 e2
  unfold maxLen at hcm0 hcm1 hcm2 hcm
  by_cases hin : n0 ≤ 1048576 ∧ n0 + n1 ≤ 1048576 ∧ n0 + n1 + n2 ≤ 1048576 ∧ n0 + n1 + n2 + n ≤ 1048576
  · obtain ⟨g0, g1, g2, g3⟩ := hin
    clear hlc0 hcm0 hlc1 hcm1 hlc2 hcm2
    go_enter Trym.func18, Trym.ntmps18
    go_wp2
    go_loop [9, 10] (fun s i => ∃ k t : Nat, k ≤ n ∧ i = .int .i64 k ∧ s = .int .i64 t ∧ t ≤ 1048576 ∧ t + totL (ts.drop k) = n0 + n1 + n2 + n + totL ts) (fun _ i => n - (intOf i).toNat)
    case atStart => exact ⟨0, n0 + n1 + n2 + n, Nat.zero_le _, rfl, by go_num, by omega, by simp⟩
    case round =>
      obtain ⟨k, t, hk, rfl, rfl, ht, hsum⟩ := hrel
      by_cases hlt : k < n
      · obtain rfl := hao (by omega)
        obtain ⟨u, hu, hBu⟩ := hcell k hlt
        obtain ⟨aou, bu, offu, capu, rfl, hlu, hcu, _, _, _⟩ := hBu
        have hst := totL_drop ts k (by have := HZ.out; omega)
        obtain ⟨m, hm⟩ : ∃ m, (ts.getD k []).length = m := ⟨_, rfl⟩
        rw [hm] at hst hu hlu
        unfold maxLen at hcu
        have HS : Hid (t + (m + totL (ts.drop (k + 1))) = n0 + n1 + n2 + n + totL ts) := by rw [← hst]; exact hsum
        clear hst hsum hao hcell hm
        by_cases hbig : m ≤ 1048576 ∧ t + m ≤ 1048576
        · obtain ⟨hb1, hb2⟩ := hbig
          go_wp2
          go_round
          case rel => exact ⟨k + 1, t + m, by omega, by go_num, by go_num, by omega, by have := HS.out; omega⟩
          case measure => simp [intOf]; omega
        · go_wp2
          all_goals first | (exfalso; omega) | (go_ret; exact answers_no)
      · clear hao hcell
        have hend := totL_end ts k (by have := HZ.out; omega)
        have HS : Hid (t = n0 + n1 + n2 + n + totL ts) := by show _ = _; omega
        clear hend hsum
        go_wp2
        go_ret
        exact answers_yes (by have := HS.out; omega)
  · clear hao hcell
    go_enter Trym.func18, Trym.ntmps18
    go_wp2
    all_goals first | (exfalso; omega) | (go_ret; exact answers_no)

set_option maxHeartbeats 1000000 in
theorem size_any (v0 v1 v2 v3 : Value) (z0 z1 z2 : List Int) (ts : List (List Int)) (w : World) (H0 : IsB .u8 w v0 z0) (H1 : IsB .i64 w v1 z1) (H2 : IsB .i64 w v2 z2) (H3 : IsT w v3 ts)
    (g0 : z0.length ≤ 1048576) (g1 : z1.length ≤ 1048576) (g2 : z2.length ≤ 1048576) (g3 : ts.length ≤ 1048576) (g4 : totL ts ≤ 1048576) :
    Calls Trym.prog 7 #[v0, v1, v2, v3] w fun e w' => AnswersInt w e w' := by
  obtain ⟨ao0, b0, off0, cap0, rfl, _, _, _, _, _⟩ := H0
  obtain ⟨ao1, b1, off1, cap1, rfl, _, _, _, _, _⟩ := H1
  obtain ⟨ao2, b2, off2, cap2, rfl, _, _, _, _, _⟩ := H2
  obtain ⟨ao, b, off, cap, rfl, hlc, hcm, _, hao, hcell⟩ := H3
  obtain ⟨n0, e0⟩ : ∃ n, z0.length = n := ⟨_, rfl⟩
  obtain ⟨n1, e1⟩ : ∃ n, z1.length = n := ⟨_, rfl⟩
  obtain ⟨n2, e2⟩ : ∃ n, z2.length = n := ⟨_, rfl⟩
  obtain ⟨n, hzn⟩ : ∃ n, ts.length = n := ⟨_, rfl⟩
  have HZ : Hid (ts.length = n) := hzn
  rw [e0] at g0 ⊢
  rw [e1] at g1 ⊢
  rw [e2] at g2 ⊢
  rw [hzn] at g3 hlc hao hcell ⊢
  clear hzn e0 e1 e2
  unfold maxLen at hcm
  go_enter Trym.func7, Trym.ntmps7
  go_wp2
  go_loop [9, 10] (fun s i => ∃ k t : Nat, k ≤ n ∧ i = .int .i64 k ∧ s = .int .i64 t ∧ t + totL (ts.drop k) = n0 + 8 * n1 + 8 * n2 + 8 * n + totL ts) (fun _ i => n - (intOf i).toNat)
  case atStart => exact ⟨0, n0 + 8 * n1 + 8 * n2 + 8 * n, Nat.zero_le _, rfl, by go_num, by simp⟩
  case round =>
    obtain ⟨k, t, hk, rfl, rfl, hsum⟩ := hrel
    by_cases hlt : k < n
    · obtain rfl := hao (by omega)
      obtain ⟨u, hu, hBu⟩ := hcell k hlt
      obtain ⟨aou, bu, offu, capu, rfl, hlu, hcu, _, _, _⟩ := hBu
      have hst := totL_drop ts k (by have := HZ.out; omega)
      obtain ⟨m, hm⟩ : ∃ m, (ts.getD k []).length = m := ⟨_, rfl⟩
      rw [hm] at hst hu hlu
      unfold maxLen at hcu
      have HS : Hid (t + (m + totL (ts.drop (k + 1))) = n0 + 8 * n1 + 8 * n2 + 8 * n + totL ts) := by rw [← hst]; exact hsum
      have hb : t + m ≤ 33554432 := by have := HS.out; omega
      clear hst hsum hao hcell hm g4
      by_cases hbig : t ≤ 1048576
      · go_wp2
        go_round
        case rel => exact ⟨k + 1, t + m, by omega, by go_num, by go_num, by have := HS.out; omega⟩
        case measure => simp [intOf]; omega
      · go_wp2
        go_ret
        exact ⟨_, rfl, rfl⟩
    · clear hao hcell hsum
      go_wp2
      go_ret
      exact ⟨_, rfl, rfl⟩

set_option maxHeartbeats 1000000 in
theorem valid_any (d : Nat) (v1 v2 v3 : Value) (z1 z2 : List Int) (ts : List (List Int)) (w : World) (H1 : IsB .i64 w v1 z1) (H2 : IsB .i64 w v2 z2) (H3 : IsT w v3 ts)
    (g0 : d ≤ 1048576) (g1 : z1.length ≤ 1048576) (g2 : z2.length ≤ 1048576) (g3 : ts.length ≤ 1048576) :
    Calls Trym.prog 8 #[.int .i64 d, v1, v2, v3] w fun e w' => Answers (z1.length = z2.length ∧ z1.length = ts.length ∧ ValidI d 0 z1 z2) w e w' := by
  obtain ⟨ao1, b1, off1, cap1, rfl, hlc1, hcm1, _, hao1, hcell1⟩ := H1
  obtain ⟨ao2, b2, off2, cap2, rfl, hlc2, hcm2, _, hao2, hcell2⟩ := H2
  obtain ⟨ao, b, off, cap, rfl, hlc, hcm, _, _, _⟩ := H3
  obtain ⟨n1, e1⟩ : ∃ n, z1.length = n := ⟨_, rfl⟩
  obtain ⟨n2, e2⟩ : ∃ n, z2.length = n := ⟨_, rfl⟩
  obtain ⟨n, hzn⟩ : ∃ n, ts.length = n := ⟨_, rfl⟩
  have E1 : Hid (z1.length = n1) := e1
  have E2 : Hid (z2.length = n2) := e2
  rw [e1] at g1 hao1 hcell1 ⊢
  rw [e2] at g2 hao2 hcell2 ⊢
  rw [hzn] at g3 ⊢
  clear hzn e1 e2 hlc1 hcm1 hlc2 hcm2 hlc hcm
  by_cases he : n1 = n2 ∧ n1 = n
  · obtain ⟨rfl, rfl⟩ := he
    have hd : ((n1 : Int) != (n1 : Int)) = false := by simp
    go_enter Trym.func8, Trym.ntmps8
    go_wp2
    clear hd
    go_loop [9, 10] (fun p i => ∃ (k : Nat) (prev : Int), k ≤ n1 ∧ i = .int .i64 k ∧ p = .int .i64 prev ∧ 0 ≤ prev ∧ prev ≤ d ∧ (ValidI d prev (z1.drop k) (z2.drop k) → ValidI d 0 z1 z2)) (fun _ i => n1 - (intOf i).toNat)
    case atStart => exact ⟨0, 0, Nat.zero_le _, rfl, rfl, by omega, by omega, fun h => by simpa using h⟩
    case round =>
      obtain ⟨k, prev, hk, rfl, rfl, hp0, hpd, hval⟩ := hrel
      by_cases hlt : k < n1
      · obtain rfl := hao1 (by omega)
        obtain rfl := hao2 (by omega)
        have hst := validI_step d prev z1 z2 k (by have := E1.out; omega) (by have := E2.out; omega)
        obtain ⟨x, hx⟩ : ∃ x, z1.getD k 0 = x := ⟨_, rfl⟩
        obtain ⟨y, hy⟩ : ∃ y, z2.getD k 0 = y := ⟨_, rfl⟩
        have hc1 := hcell1 k hlt
        have hc2 := hcell2 k hlt
        rw [hx] at hc1 hst
        rw [hy] at hc2 hst
        have HV : Hid _ := hval
        have HS : Hid _ := hst
        clear hval hst hx hy hcell1 hcell2 hao1 hao2
        by_cases ha : prev ≤ x ∧ x ≤ d
        · obtain ⟨ha1, ha2⟩ := ha
          by_cases hl : 0 ≤ y ∧ y ≤ d - x
          · obtain ⟨hl1, hl2⟩ := hl
            go_wp2
            go_round
            case rel => exact ⟨k + 1, x + y, by omega, by go_num, rfl, by omega, by omega, fun h => HV.out (HS.out ha1 ha2 hl1 hl2 h)⟩
            case measure => simp [intOf]; omega
          · go_wp2
            all_goals first | (exfalso; omega) | (go_ret; exact answers_no)
        · go_wp2
          all_goals first | (exfalso; omega) | (go_ret; exact answers_no)
      · have HV : Hid (ValidI d 0 z1 z2) := hval (validI_end d prev z1 z2 k (by have := E1.out; omega) (by have := E2.out; omega))
        clear hval hcell1 hcell2 hao1 hao2
        go_wp2
        go_ret
        exact answers_yes (by first | exact HV.out | exact ⟨rfl, rfl, HV.out⟩)
  · clear hcell1 hcell2 hao1 hao2
    go_enter Trym.func8, Trym.ntmps8
    go_wp2
    all_goals first | (exfalso; simp at *; omega) | (go_ret; exact answers_no)

end Go.Proofs.Qxb6000822aMods

/-
  SEAT b6001239aM: editDistance walked.
-/
import Derived.Test.Qxb6001239aModsMem
namespace Go.Proofs.Qxb6001239aMods
open Go.RowKit
theorem Trym.info3 : (Trym.prog.info? 3).map (fun i => (i.zero, i.size, i.bytes)) = some (some (.int .i64 0), 1, 8) := by kernel_rfl

/-- make of a row. -/
theorem run_make_row3 (w : World) (m : Nat) (hm : m ≤ 1000000) : (Instr.makeSlice 29 (.int .i64 ((m : Int) + 1)) (.int .i64 ((m : Int) + 1))).run Trym.prog w =
    .ok (.slice (some ⟨w.heap.size, 0, none⟩) (m + 1) (m + 1)) (w.alloc (.cells (madeCells #[Value.int .i64 0] (m + 1)) 3)) := by
  obtain ⟨i0, hi, hz0, hz1, hz2⟩ := info_parts Trym.info3
  have h := run_make (P := Trym.prog) w 29 3 i0 (.int .i64 0) Trym.underlying29 hi hz0 .i64 .i64 ((m : Int) + 1) ((m : Int) + 1) (by omega) (Int.le_refl _) (by rw [hz2]; omega) (by omega)
  rw [h, hz1]
  simp [Value.cells]

theorem h4_0 (W : World) (A B C E : Obj) (h : Nat) (hW : W.heap.size = h) : ((((W.alloc A).alloc B).alloc C).alloc E).heap[h]? = some A := by
  subst hW
  rw [Below.heap_alloc _ _ _ (by simp <;> omega), Below.heap_alloc _ _ _ (by simp <;> omega), Below.heap_alloc _ _ _ (by simp)]
  exact heap_alloc_new W A
theorem h4_1 (W : World) (A B C E : Obj) (h : Nat) (hW : W.heap.size = h) : ((((W.alloc A).alloc B).alloc C).alloc E).heap[h + 1]? = some B := by
  subst hW
  rw [Below.heap_alloc _ _ _ (by simp <;> omega), Below.heap_alloc _ _ _ (by simp)]
  simpa using heap_alloc_new (W.alloc A) B
theorem h4_2 (W : World) (A B C E : Obj) (h : Nat) (hW : W.heap.size = h) : ((((W.alloc A).alloc B).alloc C).alloc E).heap[h + 1 + 1]? = some C := by
  subst hW
  rw [Below.heap_alloc _ _ _ (by simp)]
  simpa using heap_alloc_new ((W.alloc A).alloc B) C
theorem h4_3 (W : World) (A B C E : Obj) (h : Nat) (hW : W.heap.size = h) : ((((W.alloc A).alloc B).alloc C).alloc E).heap[h + 1 + 1 + 1]? = some E := by
  subst hW
  simpa using heap_alloc_new (((W.alloc A).alloc B).alloc C) E

/-- What the head of editDistance leaves. -/
def Made (w wc : World) (n R a b c nx ny : Nat) (X Y : Nat → Int) : Prop :=
  Box wc R n a b c ∧ Apart w.heap.size w.heap.size (w.heap.size + 1) R a b c ∧ RowIs wc a n (fun _ => 0) ∧ RowIs wc b n (fun _ => 0) ∧ RowIs wc c n (fun _ => 0) ∧ Base w wc w.heap.size (w.heap.size + 1) nx ny X Y

theorem row_of_block {w : World} {g n : Nat} (h : w.heap[g]? = some (.cells (madeCells #[Value.int .i64 0] n) 3 (0, 0))) : RowIs w g n (fun _ => 0) := by
  refine ⟨_, h, size_madeCells _ _, fun j hj => ?_⟩
  have := toList_madeCells_one (.int .i64 0) n
  have e : (madeCells #[Value.int .i64 0] n)[j]? = (List.replicate n (Value.int .i64 0))[j]? := by rw [← this]; simp
  rw [e, List.getElem?_replicate, if_pos hj]
  rfl

theorem fin (w wc : World) (csx csy : Array Value) (A B C E : Obj) (hwc : wc = ((((((w.alloc (.cells csx 21)).alloc (.cells csy 21)).alloc A).alloc B).alloc C).alloc E).drew.drew.drew) (n R a b c nx ny : Nat) (X Y : Nat → Int)
    (hcx : ∀ j, j < nx → csx[j]? = some (.int .i32 (X j))) (hcy : ∀ j, j < ny → csy[j]? = some (.int .i32 (Y j)))
    (hR : wc.heap[R]? = some (.cells #[.slice (some ⟨a, 0, none⟩) n n, .slice (some ⟨b, 0, none⟩) n n, .slice (some ⟨c, 0, none⟩) n n] 38 (0, 0)))
    (ha : wc.heap[a]? = some (.cells (madeCells #[Value.int .i64 0] n) 3 (0, 0))) (hb : wc.heap[b]? = some (.cells (madeCells #[Value.int .i64 0] n) 3 (0, 0))) (hc : wc.heap[c]? = some (.cells (madeCells #[Value.int .i64 0] n) 3 (0, 0)))
    (hd : a ≠ b ∧ a ≠ c ∧ b ≠ c ∧ a ≠ R ∧ b ≠ R ∧ c ≠ R ∧ w.heap.size + 2 ≤ a ∧ w.heap.size + 2 ≤ b ∧ w.heap.size + 2 ≤ c ∧ w.heap.size + 2 ≤ R) : Made w wc n R a b c nx ny X Y := by
  obtain ⟨d1, d2, d3, d4, d5, d6, d7, d8, d9, d10⟩ := hd
  have hcell : ∀ j, wc.cell? ⟨R, j, none⟩ = (#[Value.slice (some ⟨a, 0, none⟩) n n, .slice (some ⟨b, 0, none⟩) n n, .slice (some ⟨c, 0, none⟩) n n])[j]? := fun j => cell_of_row wc R j _ 38 (0, 0) hR
  have hb0 : Below w.heap.size w wc := by
    subst hwc
    exact ((((((((((Below.refl _ _).alloc (Nat.le_refl _) _).alloc (by simp) _).alloc (by simp <;> omega) _).alloc (by simp <;> omega) _).alloc (by simp <;> omega) _).alloc (by simp <;> omega) _).drew).drew).drew)
  refine ⟨⟨by rw [hcell]; rfl, by rw [hcell]; rfl, by rw [hcell]; rfl, fun j => frozen_of_row wc R j _ 38 hR⟩, ⟨d1, d2, d3, d4, d5, d6, by omega, by omega, by omega, by omega, by omega, by omega, by omega, by omega, by omega, by omega, by omega, by omega⟩, row_of_block ha, row_of_block hb, row_of_block hc, ⟨?_, ?_, hb0⟩⟩
  · intro k hk
    have e : wc.heap[w.heap.size]? = some (.cells csx 21 (0, 0)) := by
      subst hwc
      show ((((((w.alloc (.cells csx 21)).alloc (.cells csy 21)).alloc A).alloc B).alloc C).alloc E).heap[w.heap.size]? = _
      rw [Below.heap_alloc _ _ _ (by simp <;> omega), Below.heap_alloc _ _ _ (by simp <;> omega), Below.heap_alloc _ _ _ (by simp <;> omega), Below.heap_alloc _ _ _ (by simp <;> omega), Below.heap_alloc _ _ _ (by simp)]
      exact heap_alloc_new w _
    rw [cell_of_row wc _ k csx 21 (0, 0) e]
    exact hcx k hk
  · intro k hk
    have e : wc.heap[w.heap.size + 1]? = some (.cells csy 21 (0, 0)) := by
      subst hwc
      show ((((((w.alloc (.cells csx 21)).alloc (.cells csy 21)).alloc A).alloc B).alloc C).alloc E).heap[w.heap.size + 1]? = _
      rw [Below.heap_alloc _ _ _ (by simp <;> omega), Below.heap_alloc _ _ _ (by simp <;> omega), Below.heap_alloc _ _ _ (by simp <;> omega), Below.heap_alloc _ _ _ (by simp)]
      simpa using heap_alloc_new (w.alloc (.cells csx 21)) (.cells csy 21)
    rw [cell_of_row wc _ k csy 21 (0, 0) e]
    exact hcy k hk



theorem fill_ok {X Y : Nat → Int} {ii jj M : Nat} {f : Nat → Nat} (hf : ∀ j, j ≤ jj → f j = D X Y (ii + 1) j) (hE : D X Y (ii + 1) (jj + 1) = M) : ∀ j, j ≤ jj + 1 → (if j = jj + 1 then M else f j) = D X Y (ii + 1) j := by
  intro j hj
  by_cases h : j = jj + 1
  · rw [if_pos h, h, hE]
  · rw [if_neg h]; exact hf j (by omega)

theorem fill_ok2 {X Y : Nat → Int} {ii jj M M2 : Nat} {f : Nat → Nat} (hf : ∀ j, j ≤ jj → f j = D X Y (ii + 1) j) (hE : D X Y (ii + 1) (jj + 1) = M2) : ∀ j, j ≤ jj + 1 → (if j = jj + 1 then M2 else (if j = jj + 1 then M else f j)) = D X Y (ii + 1) j := by
  intro j hj
  by_cases h : j = jj + 1
  · rw [if_pos h, h, hE]
  · rw [if_neg h, if_neg h]; exact hf j (by omega)

theorem box_turn {w : World} {R n a b c : Nat} (h : Box w R n a b c) :
    Box (((w.setCell ⟨R, 0, none⟩ (.slice (some ⟨b, 0, none⟩) n n)).setCell ⟨R, 1, none⟩ (.slice (some ⟨c, 0, none⟩) n n)).setCell ⟨R, 2, none⟩ (.slice (some ⟨a, 0, none⟩) n n)) R n b c a := by
  have e1 : (w.setCell ⟨R, 0, none⟩ (.slice (some ⟨b, 0, none⟩) n n)).cell? ⟨R, 1, none⟩ = some (.slice (some ⟨b, 0, none⟩) n n) := by rw [World.cell?_setCell_other _ _ _ _ (by simp)]; exact h.c1
  have e2 : ((w.setCell ⟨R, 0, none⟩ (.slice (some ⟨b, 0, none⟩) n n)).setCell ⟨R, 1, none⟩ (.slice (some ⟨c, 0, none⟩) n n)).cell? ⟨R, 2, none⟩ = some (.slice (some ⟨c, 0, none⟩) n n) := by
    rw [World.cell?_setCell_other _ _ _ _ (by simp), World.cell?_setCell_other _ _ _ _ (by simp)]; exact h.c2
  refine ⟨?_, ?_, World.cell?_setCell_same _ _ _ e2, fun j => ?_⟩
  · rw [World.cell?_setCell_other _ _ _ _ (by simp), World.cell?_setCell_other _ _ _ _ (by simp)]
    exact World.cell?_setCell_same _ _ _ h.c0
  · rw [World.cell?_setCell_other _ _ _ _ (by simp)]
    exact World.cell?_setCell_same _ _ _ e1
  · rw [World.frozen?_setCell, World.frozen?_setCell, World.frozen?_setCell]; exact h.free j
theorem row_turn {w : World} {g n R : Nat} {f : Nat → Nat} (h : RowIs w g n f) (hg : g ≠ R) (u v x : Value) : RowIs (((w.setCell ⟨R, 0, none⟩ u).setCell ⟨R, 1, none⟩ v).setCell ⟨R, 2, none⟩ x) g n f :=
  ((h.other hg u).other hg v).other hg x

set_option maxRecDepth 100000 in
set_option maxHeartbeats 16000000 in
theorem ed_any (a b : ByteArray) (w : World) (ha : a.size ≤ 65536) (hb : b.size ≤ 65536) :
    Calls Trym.prog 25 #[.string a, .string b] w fun e w' => e = .returned (.int .i64 (D (fun k => (runesOf a).getD k 0) (fun k => (runesOf b).getD k 0) (runesOf a).length (runesOf b).length : Nat)) ∧ Below w.heap.size w w' := by
  obtain ⟨capx, csx, hrx, hcx, hlx⟩ := run_runes w a (by omega)
  obtain ⟨capy, csy, hry, hcy, hly⟩ := run_runes (w.alloc (.cells csx 21)).drew b (by omega)
  rw [show ((w.alloc (.cells csx 21)).drew).heap.size = w.heap.size + 1 by simp] at hry
  have hnx := runesOf_le a
  have hny := runesOf_le b
  obtain ⟨xs, hxs⟩ : ∃ xs, runesOf a = xs := ⟨_, rfl⟩
  obtain ⟨ys, hys⟩ : ∃ ys, runesOf b = ys := ⟨_, rfl⟩
  rw [hxs] at hrx hcx hlx hnx ⊢
  rw [hys] at hry hcy hly hny ⊢
  obtain ⟨nx, hnx'⟩ : ∃ n, xs.length = n := ⟨_, rfl⟩
  obtain ⟨ny, hny'⟩ : ∃ n, ys.length = n := ⟨_, rfl⟩
  obtain ⟨X, hX⟩ : ∃ X : Nat → Int, (fun k => xs.getD k 0) = X := ⟨_, rfl⟩
  obtain ⟨Y, hY⟩ : ∃ Y : Nat → Int, (fun k => ys.getD k 0) = Y := ⟨_, rfl⟩
  rw [hnx'] at hrx hcx hlx hnx ⊢
  rw [hny'] at hry hcy hly hny ⊢
  have hmk := fun wx => run_make_row3 wx ny (by omega)
  have HC : Hid ((∀ j, j < nx → csx[j]? = some (.int .i32 (X j))) ∧ (∀ j, j < ny → csy[j]? = some (.int .i32 (Y j)))) := ⟨fun j hj => by rw [hcx j hj, ← hX], fun j hj => by rw [hcy j hj, ← hY]⟩
  rw [hX, hY]
  clear hxs hys hnx' hny' hX hY
  go_enter Trym.func25, Trym.ntmps25
  go_wp2_with fail
  clear hrx hry
  clear hcx hcy
  go_cut [5, 6, 7] (fun xv yv rv wc => ∃ R a b c, xv = .slice (some ⟨w.heap.size, 0, none⟩) nx capx ∧ yv = .slice (some ⟨w.heap.size + 1, 0, none⟩) ny capy ∧ rv = .pointer (some ⟨R, 0, none⟩) ∧ Made w wc (ny + 1) R a b c nx ny X Y)
  case first =>
    go_region
    all_goals (go_wp2_with fail; go_meet)
    all_goals
      first
      | exact ⟨(w.heap.size + 1 + 1), (w.heap.size + 1 + 1 + 1), (w.heap.size + 1 + 1 + 1 + 1), (w.heap.size + 1 + 1 + 1 + 1 + 1), rfl, rfl, rfl, fin w _ csx csy _ _ _ _ rfl (ny + 1) (w.heap.size + 1 + 1) (w.heap.size + 1 + 1 + 1) (w.heap.size + 1 + 1 + 1 + 1) (w.heap.size + 1 + 1 + 1 + 1 + 1) nx ny X Y HC.out.1 HC.out.2 (h4_0 _ _ _ _ _ (w.heap.size + 1 + 1) (by simp)) (h4_1 _ _ _ _ _ (w.heap.size + 1 + 1) (by simp)) (h4_2 _ _ _ _ _ (w.heap.size + 1 + 1) (by simp)) (h4_3 _ _ _ _ _ (w.heap.size + 1 + 1) (by simp)) (by omega)⟩
      | exact ⟨(w.heap.size + 1 + 1), (w.heap.size + 1 + 1 + 1), (w.heap.size + 1 + 1 + 1 + 1 + 1), (w.heap.size + 1 + 1 + 1 + 1), rfl, rfl, rfl, fin w _ csx csy _ _ _ _ rfl (ny + 1) (w.heap.size + 1 + 1) (w.heap.size + 1 + 1 + 1) (w.heap.size + 1 + 1 + 1 + 1 + 1) (w.heap.size + 1 + 1 + 1 + 1) nx ny X Y HC.out.1 HC.out.2 (h4_0 _ _ _ _ _ (w.heap.size + 1 + 1) (by simp)) (h4_1 _ _ _ _ _ (w.heap.size + 1 + 1) (by simp)) (h4_3 _ _ _ _ _ (w.heap.size + 1 + 1) (by simp)) (h4_2 _ _ _ _ _ (w.heap.size + 1 + 1) (by simp)) (by omega)⟩
      | exact ⟨(w.heap.size + 1 + 1), (w.heap.size + 1 + 1 + 1 + 1), (w.heap.size + 1 + 1 + 1), (w.heap.size + 1 + 1 + 1 + 1 + 1), rfl, rfl, rfl, fin w _ csx csy _ _ _ _ rfl (ny + 1) (w.heap.size + 1 + 1) (w.heap.size + 1 + 1 + 1 + 1) (w.heap.size + 1 + 1 + 1) (w.heap.size + 1 + 1 + 1 + 1 + 1) nx ny X Y HC.out.1 HC.out.2 (h4_0 _ _ _ _ _ (w.heap.size + 1 + 1) (by simp)) (h4_2 _ _ _ _ _ (w.heap.size + 1 + 1) (by simp)) (h4_1 _ _ _ _ _ (w.heap.size + 1 + 1) (by simp)) (h4_3 _ _ _ _ _ (w.heap.size + 1 + 1) (by simp)) (by omega)⟩
      | exact ⟨(w.heap.size + 1 + 1), (w.heap.size + 1 + 1 + 1 + 1), (w.heap.size + 1 + 1 + 1 + 1 + 1), (w.heap.size + 1 + 1 + 1), rfl, rfl, rfl, fin w _ csx csy _ _ _ _ rfl (ny + 1) (w.heap.size + 1 + 1) (w.heap.size + 1 + 1 + 1 + 1) (w.heap.size + 1 + 1 + 1 + 1 + 1) (w.heap.size + 1 + 1 + 1) nx ny X Y HC.out.1 HC.out.2 (h4_0 _ _ _ _ _ (w.heap.size + 1 + 1) (by simp)) (h4_2 _ _ _ _ _ (w.heap.size + 1 + 1) (by simp)) (h4_3 _ _ _ _ _ (w.heap.size + 1 + 1) (by simp)) (h4_1 _ _ _ _ _ (w.heap.size + 1 + 1) (by simp)) (by omega)⟩
      | exact ⟨(w.heap.size + 1 + 1), (w.heap.size + 1 + 1 + 1 + 1 + 1), (w.heap.size + 1 + 1 + 1), (w.heap.size + 1 + 1 + 1 + 1), rfl, rfl, rfl, fin w _ csx csy _ _ _ _ rfl (ny + 1) (w.heap.size + 1 + 1) (w.heap.size + 1 + 1 + 1 + 1 + 1) (w.heap.size + 1 + 1 + 1) (w.heap.size + 1 + 1 + 1 + 1) nx ny X Y HC.out.1 HC.out.2 (h4_0 _ _ _ _ _ (w.heap.size + 1 + 1) (by simp)) (h4_3 _ _ _ _ _ (w.heap.size + 1 + 1) (by simp)) (h4_1 _ _ _ _ _ (w.heap.size + 1 + 1) (by simp)) (h4_2 _ _ _ _ _ (w.heap.size + 1 + 1) (by simp)) (by omega)⟩
      | exact ⟨(w.heap.size + 1 + 1), (w.heap.size + 1 + 1 + 1 + 1 + 1), (w.heap.size + 1 + 1 + 1 + 1), (w.heap.size + 1 + 1 + 1), rfl, rfl, rfl, fin w _ csx csy _ _ _ _ rfl (ny + 1) (w.heap.size + 1 + 1) (w.heap.size + 1 + 1 + 1 + 1 + 1) (w.heap.size + 1 + 1 + 1 + 1) (w.heap.size + 1 + 1 + 1) nx ny X Y HC.out.1 HC.out.2 (h4_0 _ _ _ _ _ (w.heap.size + 1 + 1) (by simp)) (h4_3 _ _ _ _ _ (w.heap.size + 1 + 1) (by simp)) (h4_2 _ _ _ _ _ (w.heap.size + 1 + 1) (by simp)) (h4_1 _ _ _ _ _ (w.heap.size + 1 + 1) (by simp)) (by omega)⟩
      | exact ⟨(w.heap.size + 1 + 1 + 1), (w.heap.size + 1 + 1), (w.heap.size + 1 + 1 + 1 + 1), (w.heap.size + 1 + 1 + 1 + 1 + 1), rfl, rfl, rfl, fin w _ csx csy _ _ _ _ rfl (ny + 1) (w.heap.size + 1 + 1 + 1) (w.heap.size + 1 + 1) (w.heap.size + 1 + 1 + 1 + 1) (w.heap.size + 1 + 1 + 1 + 1 + 1) nx ny X Y HC.out.1 HC.out.2 (h4_1 _ _ _ _ _ (w.heap.size + 1 + 1) (by simp)) (h4_0 _ _ _ _ _ (w.heap.size + 1 + 1) (by simp)) (h4_2 _ _ _ _ _ (w.heap.size + 1 + 1) (by simp)) (h4_3 _ _ _ _ _ (w.heap.size + 1 + 1) (by simp)) (by omega)⟩
      | exact ⟨(w.heap.size + 1 + 1 + 1), (w.heap.size + 1 + 1), (w.heap.size + 1 + 1 + 1 + 1 + 1), (w.heap.size + 1 + 1 + 1 + 1), rfl, rfl, rfl, fin w _ csx csy _ _ _ _ rfl (ny + 1) (w.heap.size + 1 + 1 + 1) (w.heap.size + 1 + 1) (w.heap.size + 1 + 1 + 1 + 1 + 1) (w.heap.size + 1 + 1 + 1 + 1) nx ny X Y HC.out.1 HC.out.2 (h4_1 _ _ _ _ _ (w.heap.size + 1 + 1) (by simp)) (h4_0 _ _ _ _ _ (w.heap.size + 1 + 1) (by simp)) (h4_3 _ _ _ _ _ (w.heap.size + 1 + 1) (by simp)) (h4_2 _ _ _ _ _ (w.heap.size + 1 + 1) (by simp)) (by omega)⟩
      | exact ⟨(w.heap.size + 1 + 1 + 1), (w.heap.size + 1 + 1 + 1 + 1), (w.heap.size + 1 + 1), (w.heap.size + 1 + 1 + 1 + 1 + 1), rfl, rfl, rfl, fin w _ csx csy _ _ _ _ rfl (ny + 1) (w.heap.size + 1 + 1 + 1) (w.heap.size + 1 + 1 + 1 + 1) (w.heap.size + 1 + 1) (w.heap.size + 1 + 1 + 1 + 1 + 1) nx ny X Y HC.out.1 HC.out.2 (h4_1 _ _ _ _ _ (w.heap.size + 1 + 1) (by simp)) (h4_2 _ _ _ _ _ (w.heap.size + 1 + 1) (by simp)) (h4_0 _ _ _ _ _ (w.heap.size + 1 + 1) (by simp)) (h4_3 _ _ _ _ _ (w.heap.size + 1 + 1) (by simp)) (by omega)⟩
      | exact ⟨(w.heap.size + 1 + 1 + 1), (w.heap.size + 1 + 1 + 1 + 1), (w.heap.size + 1 + 1 + 1 + 1 + 1), (w.heap.size + 1 + 1), rfl, rfl, rfl, fin w _ csx csy _ _ _ _ rfl (ny + 1) (w.heap.size + 1 + 1 + 1) (w.heap.size + 1 + 1 + 1 + 1) (w.heap.size + 1 + 1 + 1 + 1 + 1) (w.heap.size + 1 + 1) nx ny X Y HC.out.1 HC.out.2 (h4_1 _ _ _ _ _ (w.heap.size + 1 + 1) (by simp)) (h4_2 _ _ _ _ _ (w.heap.size + 1 + 1) (by simp)) (h4_3 _ _ _ _ _ (w.heap.size + 1 + 1) (by simp)) (h4_0 _ _ _ _ _ (w.heap.size + 1 + 1) (by simp)) (by omega)⟩
      | exact ⟨(w.heap.size + 1 + 1 + 1), (w.heap.size + 1 + 1 + 1 + 1 + 1), (w.heap.size + 1 + 1), (w.heap.size + 1 + 1 + 1 + 1), rfl, rfl, rfl, fin w _ csx csy _ _ _ _ rfl (ny + 1) (w.heap.size + 1 + 1 + 1) (w.heap.size + 1 + 1 + 1 + 1 + 1) (w.heap.size + 1 + 1) (w.heap.size + 1 + 1 + 1 + 1) nx ny X Y HC.out.1 HC.out.2 (h4_1 _ _ _ _ _ (w.heap.size + 1 + 1) (by simp)) (h4_3 _ _ _ _ _ (w.heap.size + 1 + 1) (by simp)) (h4_0 _ _ _ _ _ (w.heap.size + 1 + 1) (by simp)) (h4_2 _ _ _ _ _ (w.heap.size + 1 + 1) (by simp)) (by omega)⟩
      | exact ⟨(w.heap.size + 1 + 1 + 1), (w.heap.size + 1 + 1 + 1 + 1 + 1), (w.heap.size + 1 + 1 + 1 + 1), (w.heap.size + 1 + 1), rfl, rfl, rfl, fin w _ csx csy _ _ _ _ rfl (ny + 1) (w.heap.size + 1 + 1 + 1) (w.heap.size + 1 + 1 + 1 + 1 + 1) (w.heap.size + 1 + 1 + 1 + 1) (w.heap.size + 1 + 1) nx ny X Y HC.out.1 HC.out.2 (h4_1 _ _ _ _ _ (w.heap.size + 1 + 1) (by simp)) (h4_3 _ _ _ _ _ (w.heap.size + 1 + 1) (by simp)) (h4_2 _ _ _ _ _ (w.heap.size + 1 + 1) (by simp)) (h4_0 _ _ _ _ _ (w.heap.size + 1 + 1) (by simp)) (by omega)⟩
      | exact ⟨(w.heap.size + 1 + 1 + 1 + 1), (w.heap.size + 1 + 1), (w.heap.size + 1 + 1 + 1), (w.heap.size + 1 + 1 + 1 + 1 + 1), rfl, rfl, rfl, fin w _ csx csy _ _ _ _ rfl (ny + 1) (w.heap.size + 1 + 1 + 1 + 1) (w.heap.size + 1 + 1) (w.heap.size + 1 + 1 + 1) (w.heap.size + 1 + 1 + 1 + 1 + 1) nx ny X Y HC.out.1 HC.out.2 (h4_2 _ _ _ _ _ (w.heap.size + 1 + 1) (by simp)) (h4_0 _ _ _ _ _ (w.heap.size + 1 + 1) (by simp)) (h4_1 _ _ _ _ _ (w.heap.size + 1 + 1) (by simp)) (h4_3 _ _ _ _ _ (w.heap.size + 1 + 1) (by simp)) (by omega)⟩
      | exact ⟨(w.heap.size + 1 + 1 + 1 + 1), (w.heap.size + 1 + 1), (w.heap.size + 1 + 1 + 1 + 1 + 1), (w.heap.size + 1 + 1 + 1), rfl, rfl, rfl, fin w _ csx csy _ _ _ _ rfl (ny + 1) (w.heap.size + 1 + 1 + 1 + 1) (w.heap.size + 1 + 1) (w.heap.size + 1 + 1 + 1 + 1 + 1) (w.heap.size + 1 + 1 + 1) nx ny X Y HC.out.1 HC.out.2 (h4_2 _ _ _ _ _ (w.heap.size + 1 + 1) (by simp)) (h4_0 _ _ _ _ _ (w.heap.size + 1 + 1) (by simp)) (h4_3 _ _ _ _ _ (w.heap.size + 1 + 1) (by simp)) (h4_1 _ _ _ _ _ (w.heap.size + 1 + 1) (by simp)) (by omega)⟩
      | exact ⟨(w.heap.size + 1 + 1 + 1 + 1), (w.heap.size + 1 + 1 + 1), (w.heap.size + 1 + 1), (w.heap.size + 1 + 1 + 1 + 1 + 1), rfl, rfl, rfl, fin w _ csx csy _ _ _ _ rfl (ny + 1) (w.heap.size + 1 + 1 + 1 + 1) (w.heap.size + 1 + 1 + 1) (w.heap.size + 1 + 1) (w.heap.size + 1 + 1 + 1 + 1 + 1) nx ny X Y HC.out.1 HC.out.2 (h4_2 _ _ _ _ _ (w.heap.size + 1 + 1) (by simp)) (h4_1 _ _ _ _ _ (w.heap.size + 1 + 1) (by simp)) (h4_0 _ _ _ _ _ (w.heap.size + 1 + 1) (by simp)) (h4_3 _ _ _ _ _ (w.heap.size + 1 + 1) (by simp)) (by omega)⟩
      | exact ⟨(w.heap.size + 1 + 1 + 1 + 1), (w.heap.size + 1 + 1 + 1), (w.heap.size + 1 + 1 + 1 + 1 + 1), (w.heap.size + 1 + 1), rfl, rfl, rfl, fin w _ csx csy _ _ _ _ rfl (ny + 1) (w.heap.size + 1 + 1 + 1 + 1) (w.heap.size + 1 + 1 + 1) (w.heap.size + 1 + 1 + 1 + 1 + 1) (w.heap.size + 1 + 1) nx ny X Y HC.out.1 HC.out.2 (h4_2 _ _ _ _ _ (w.heap.size + 1 + 1) (by simp)) (h4_1 _ _ _ _ _ (w.heap.size + 1 + 1) (by simp)) (h4_3 _ _ _ _ _ (w.heap.size + 1 + 1) (by simp)) (h4_0 _ _ _ _ _ (w.heap.size + 1 + 1) (by simp)) (by omega)⟩
      | exact ⟨(w.heap.size + 1 + 1 + 1 + 1), (w.heap.size + 1 + 1 + 1 + 1 + 1), (w.heap.size + 1 + 1), (w.heap.size + 1 + 1 + 1), rfl, rfl, rfl, fin w _ csx csy _ _ _ _ rfl (ny + 1) (w.heap.size + 1 + 1 + 1 + 1) (w.heap.size + 1 + 1 + 1 + 1 + 1) (w.heap.size + 1 + 1) (w.heap.size + 1 + 1 + 1) nx ny X Y HC.out.1 HC.out.2 (h4_2 _ _ _ _ _ (w.heap.size + 1 + 1) (by simp)) (h4_3 _ _ _ _ _ (w.heap.size + 1 + 1) (by simp)) (h4_0 _ _ _ _ _ (w.heap.size + 1 + 1) (by simp)) (h4_1 _ _ _ _ _ (w.heap.size + 1 + 1) (by simp)) (by omega)⟩
      | exact ⟨(w.heap.size + 1 + 1 + 1 + 1), (w.heap.size + 1 + 1 + 1 + 1 + 1), (w.heap.size + 1 + 1 + 1), (w.heap.size + 1 + 1), rfl, rfl, rfl, fin w _ csx csy _ _ _ _ rfl (ny + 1) (w.heap.size + 1 + 1 + 1 + 1) (w.heap.size + 1 + 1 + 1 + 1 + 1) (w.heap.size + 1 + 1 + 1) (w.heap.size + 1 + 1) nx ny X Y HC.out.1 HC.out.2 (h4_2 _ _ _ _ _ (w.heap.size + 1 + 1) (by simp)) (h4_3 _ _ _ _ _ (w.heap.size + 1 + 1) (by simp)) (h4_1 _ _ _ _ _ (w.heap.size + 1 + 1) (by simp)) (h4_0 _ _ _ _ _ (w.heap.size + 1 + 1) (by simp)) (by omega)⟩
      | exact ⟨(w.heap.size + 1 + 1 + 1 + 1 + 1), (w.heap.size + 1 + 1), (w.heap.size + 1 + 1 + 1), (w.heap.size + 1 + 1 + 1 + 1), rfl, rfl, rfl, fin w _ csx csy _ _ _ _ rfl (ny + 1) (w.heap.size + 1 + 1 + 1 + 1 + 1) (w.heap.size + 1 + 1) (w.heap.size + 1 + 1 + 1) (w.heap.size + 1 + 1 + 1 + 1) nx ny X Y HC.out.1 HC.out.2 (h4_3 _ _ _ _ _ (w.heap.size + 1 + 1) (by simp)) (h4_0 _ _ _ _ _ (w.heap.size + 1 + 1) (by simp)) (h4_1 _ _ _ _ _ (w.heap.size + 1 + 1) (by simp)) (h4_2 _ _ _ _ _ (w.heap.size + 1 + 1) (by simp)) (by omega)⟩
      | exact ⟨(w.heap.size + 1 + 1 + 1 + 1 + 1), (w.heap.size + 1 + 1), (w.heap.size + 1 + 1 + 1 + 1), (w.heap.size + 1 + 1 + 1), rfl, rfl, rfl, fin w _ csx csy _ _ _ _ rfl (ny + 1) (w.heap.size + 1 + 1 + 1 + 1 + 1) (w.heap.size + 1 + 1) (w.heap.size + 1 + 1 + 1 + 1) (w.heap.size + 1 + 1 + 1) nx ny X Y HC.out.1 HC.out.2 (h4_3 _ _ _ _ _ (w.heap.size + 1 + 1) (by simp)) (h4_0 _ _ _ _ _ (w.heap.size + 1 + 1) (by simp)) (h4_2 _ _ _ _ _ (w.heap.size + 1 + 1) (by simp)) (h4_1 _ _ _ _ _ (w.heap.size + 1 + 1) (by simp)) (by omega)⟩
      | exact ⟨(w.heap.size + 1 + 1 + 1 + 1 + 1), (w.heap.size + 1 + 1 + 1), (w.heap.size + 1 + 1), (w.heap.size + 1 + 1 + 1 + 1), rfl, rfl, rfl, fin w _ csx csy _ _ _ _ rfl (ny + 1) (w.heap.size + 1 + 1 + 1 + 1 + 1) (w.heap.size + 1 + 1 + 1) (w.heap.size + 1 + 1) (w.heap.size + 1 + 1 + 1 + 1) nx ny X Y HC.out.1 HC.out.2 (h4_3 _ _ _ _ _ (w.heap.size + 1 + 1) (by simp)) (h4_1 _ _ _ _ _ (w.heap.size + 1 + 1) (by simp)) (h4_0 _ _ _ _ _ (w.heap.size + 1 + 1) (by simp)) (h4_2 _ _ _ _ _ (w.heap.size + 1 + 1) (by simp)) (by omega)⟩
      | exact ⟨(w.heap.size + 1 + 1 + 1 + 1 + 1), (w.heap.size + 1 + 1 + 1), (w.heap.size + 1 + 1 + 1 + 1), (w.heap.size + 1 + 1), rfl, rfl, rfl, fin w _ csx csy _ _ _ _ rfl (ny + 1) (w.heap.size + 1 + 1 + 1 + 1 + 1) (w.heap.size + 1 + 1 + 1) (w.heap.size + 1 + 1 + 1 + 1) (w.heap.size + 1 + 1) nx ny X Y HC.out.1 HC.out.2 (h4_3 _ _ _ _ _ (w.heap.size + 1 + 1) (by simp)) (h4_1 _ _ _ _ _ (w.heap.size + 1 + 1) (by simp)) (h4_2 _ _ _ _ _ (w.heap.size + 1 + 1) (by simp)) (h4_0 _ _ _ _ _ (w.heap.size + 1 + 1) (by simp)) (by omega)⟩
      | exact ⟨(w.heap.size + 1 + 1 + 1 + 1 + 1), (w.heap.size + 1 + 1 + 1 + 1), (w.heap.size + 1 + 1), (w.heap.size + 1 + 1 + 1), rfl, rfl, rfl, fin w _ csx csy _ _ _ _ rfl (ny + 1) (w.heap.size + 1 + 1 + 1 + 1 + 1) (w.heap.size + 1 + 1 + 1 + 1) (w.heap.size + 1 + 1) (w.heap.size + 1 + 1 + 1) nx ny X Y HC.out.1 HC.out.2 (h4_3 _ _ _ _ _ (w.heap.size + 1 + 1) (by simp)) (h4_2 _ _ _ _ _ (w.heap.size + 1 + 1) (by simp)) (h4_0 _ _ _ _ _ (w.heap.size + 1 + 1) (by simp)) (h4_1 _ _ _ _ _ (w.heap.size + 1 + 1) (by simp)) (by omega)⟩
      | exact ⟨(w.heap.size + 1 + 1 + 1 + 1 + 1), (w.heap.size + 1 + 1 + 1 + 1), (w.heap.size + 1 + 1 + 1), (w.heap.size + 1 + 1), rfl, rfl, rfl, fin w _ csx csy _ _ _ _ rfl (ny + 1) (w.heap.size + 1 + 1 + 1 + 1 + 1) (w.heap.size + 1 + 1 + 1 + 1) (w.heap.size + 1 + 1 + 1) (w.heap.size + 1 + 1) nx ny X Y HC.out.1 HC.out.2 (h4_3 _ _ _ _ _ (w.heap.size + 1 + 1) (by simp)) (h4_2 _ _ _ _ _ (w.heap.size + 1 + 1) (by simp)) (h4_1 _ _ _ _ _ (w.heap.size + 1 + 1) (by simp)) (h4_0 _ _ _ _ _ (w.heap.size + 1 + 1) (by simp)) (by omega)⟩
  case rest =>
    obtain ⟨R, a1, b1, c1, rfl, rfl, rfl, hbox, hap, hra, hrb, hrc, hbase⟩ := hcut
    clear HC hmk
    have hc1 := hbox.c1
    have HK : Hid (Box wc R (ny + 1) a1 b1 c1 ∧ RowIs wc a1 (ny + 1) (fun _ => 0) ∧ RowIs wc b1 (ny + 1) (fun j => if j < 0 then j else 0) ∧ RowIs wc c1 (ny + 1) (fun _ => 0) ∧ Base w wc w.heap.size (w.heap.size + 1) nx ny X Y) :=
      ⟨hbox, hra, hrb.congr (fun j _ => by simp), hrc, hbase⟩
    have HA : Hid (Apart w.heap.size w.heap.size (w.heap.size + 1) R a1 b1 c1) := hap
    clear hbox hap hra hrb hrc hbase
    go_wp2
    clear hc1
    go_loopw [35] (fun i wr => ∃ k : Nat, k ≤ ny + 1 ∧ i = .int .i64 k ∧ Box wr R (ny + 1) a1 b1 c1 ∧ RowIs wr a1 (ny + 1) (fun _ => 0) ∧ RowIs wr b1 (ny + 1) (fun j => if j < k then j else 0) ∧ RowIs wr c1 (ny + 1) (fun _ => 0) ∧ Base w wr w.heap.size (w.heap.size + 1) nx ny X Y)
      (fun i _ => ny + 1 - (intOf i).toNat)
    case atStart => exact ⟨0, Nat.zero_le _, rfl, HK.out⟩
    case round =>
      obtain ⟨k, hk, rfl, hbox, hra, hrb, hrc, hbase⟩ := hrel
      clear HK
      by_cases hlt : k < ny + 1
      · have hc1 := hbox.c1
        have hcb := hrb.cell k hlt
        have hfb := hrb.free k
        have R' : Hid (Box (wr.setCell ⟨b1, k, none⟩ (.int .i64 (k : Int))) R (ny + 1) a1 b1 c1 ∧ RowIs (wr.setCell ⟨b1, k, none⟩ (.int .i64 (k : Int))) a1 (ny + 1) (fun _ => 0) ∧ RowIs (wr.setCell ⟨b1, k, none⟩ (.int .i64 (k : Int))) b1 (ny + 1) (fun j => if j < k + 1 then j else 0) ∧
            RowIs (wr.setCell ⟨b1, k, none⟩ (.int .i64 (k : Int))) c1 (ny + 1) (fun _ => 0) ∧ Base w (wr.setCell ⟨b1, k, none⟩ (.int .i64 (k : Int))) w.heap.size (w.heap.size + 1) nx ny X Y) :=
          ⟨hbox.set HA.out.bR _, hra.other HA.out.ab _, (hrb.set k k).congr (fun j _ => by by_cases h : j = k <;> simp [h] <;> split <;> split <;> omega), hrc.other (fun h => HA.out.bc h.symm) _, hbase.set HA.out.bx' HA.out.by'' HA.out.lb _⟩
        clear hbox hra hrb hrc hbase
        go_wp2
        go_roundw
        case rel => exact ⟨k + 1, by omega, by go_num, R'.out⟩
        case measure => simp [intOf]; omega
      · have HK : Hid (Box wr R (ny + 1) a1 b1 c1 ∧ RowIs wr a1 (ny + 1) (fun _ => 0) ∧ RowIs wr b1 (ny + 1) (fun j => j) ∧ RowIs wr c1 (ny + 1) (fun _ => 0) ∧ Base w wr w.heap.size (w.heap.size + 1) nx ny X Y) :=
          ⟨hbox, hra, hrb.congr (fun j hj => by rw [if_pos (by omega)]), hrc, hbase⟩
        clear hbox hra hrb hrc hbase
        have HM : Hid _ := HK
        clear HK
        go_wp2
        clear hlt hk
        go_loopw [9] (fun iv wr => ∃ (ii a2 b2 c2 : Nat) (fa fc : Nat → Nat), ii ≤ nx ∧ iv = .int .i64 ((ii : Int) + 1) ∧ Box wr R (ny + 1) a2 b2 c2 ∧ Apart w.heap.size w.heap.size (w.heap.size + 1) R a2 b2 c2 ∧ RowIs wr a2 (ny + 1) fa ∧
            (∀ i', ii = i' + 1 → ∀ j, j < ny + 1 → fa j = D X Y i' j) ∧ RowIs wr b2 (ny + 1) (fun j => D X Y ii j) ∧ RowIs wr c2 (ny + 1) fc ∧ Base w wr w.heap.size (w.heap.size + 1) nx ny X Y)
          (fun iv _ => nx + 1 - (intOf iv).toNat)
        case atStart => exact ⟨0, a1, b1, c1, _, _, Nat.zero_le _, rfl, HM.out.1, HA.out, HM.out.2.1, fun i' h => by omega, HM.out.2.2.1, HM.out.2.2.2.1, HM.out.2.2.2.2⟩
        case round =>
          obtain ⟨ii, a2, b2, c2, fa, fc, hii, rfl, hbox, hap, hra, hfa, hrb, hrc, hbase⟩ := hrel
          clear HM
          by_cases hlt : ii < nx
          · have hgd0 : decide ((ii : Int) + 1 ≤ (nx : Int)) = true := by simp; omega
            have k0 := hbox.c0
            have k1 := hbox.c1
            have k2 := hbox.c2
            have hcc := hrc.cell 0 (by omega)
            have hfz := hrc.free 0
            have R' : Hid (∀ m, Box ((wr.drewN m).setCell ⟨c2, 0, none⟩ (.int .i64 ((ii : Int) + 1))) R (ny + 1) a2 b2 c2 ∧ RowIs ((wr.drewN m).setCell ⟨c2, 0, none⟩ (.int .i64 ((ii : Int) + 1))) a2 (ny + 1) fa ∧
                RowIs ((wr.drewN m).setCell ⟨c2, 0, none⟩ (.int .i64 ((ii : Int) + 1))) b2 (ny + 1) (fun j => D X Y ii j) ∧ RowIs ((wr.drewN m).setCell ⟨c2, 0, none⟩ (.int .i64 ((ii : Int) + 1))) c2 (ny + 1) (fun k => if k = 0 then ii + 1 else fc k) ∧ Base w ((wr.drewN m).setCell ⟨c2, 0, none⟩ (.int .i64 ((ii : Int) + 1))) w.heap.size (w.heap.size + 1) nx ny X Y) :=
              fun m => ⟨(hbox.drewN m).set hap.cR _, (hra.drewN m).other hap.ac _, (hrb.drewN m).other hap.bc _, (hrc.drewN m).set 0 (ii + 1), (hbase.drewN m).set hap.cx hap.cy hap.lc _⟩
            have HA2 : Hid (Apart w.heap.size w.heap.size (w.heap.size + 1) R a2 b2 c2) := hap
            have HF : Hid (∀ i', ii = i' + 1 → ∀ j, j < ny + 1 → fa j = D X Y i' j) := hfa
            clear hbox hap hra hfa hrb hrc hbase
            go_wp2_with fail
            go_quiet (fail)
            go_wp2
            clear k0 k1 k2 hcc hfz
            go_loopw [13] (fun jv wr => ∃ (jj : Nat) (f : Nat → Nat), jj ≤ ny ∧ jv = .int .i64 ((jj : Int) + 1) ∧ Box wr R (ny + 1) a2 b2 c2 ∧ RowIs wr a2 (ny + 1) fa ∧ RowIs wr b2 (ny + 1) (fun j => D X Y ii j) ∧ RowIs wr c2 (ny + 1) f ∧
                (∀ j, j ≤ jj → f j = D X Y (ii + 1) j) ∧ Base w wr w.heap.size (w.heap.size + 1) nx ny X Y)
              (fun jv _ => ny + 1 - (intOf jv).toNat)
            case atStart => exact ⟨0, fun k => if k = 0 then ii + 1 else fc k, Nat.zero_le _, rfl, (R'.out _).1, (R'.out _).2.1, (R'.out _).2.2.1, (R'.out _).2.2.2.1, fun j hj => by have hz : j = 0 := Nat.le_zero.mp hj; subst hz; rfl, (R'.out _).2.2.2.2⟩
            case round =>
              obtain ⟨jj, f, hjj, rfl, hbox, hra, hrb, hrc, hf, hbase⟩ := hrel
              clear R'
              by_cases hjl : jj < ny
              · have gx := hbase.x ii hlt
                have gy := hbase.y jj hjl
                have g1 := hrb.cell (jj + 1) (by omega)
                have g0 := hrb.cell jj (by omega)
                have gc := hrc.cell jj (by omega)
                have gn := hrc.cell (jj + 1) (by omega)
                have gf := hrc.free (jj + 1)
                rw [hf jj (Nat.le_refl _)] at gc
                have u1 := D_upper (X := X) (Y := Y) ii (jj + 1)
                have u0 := D_upper (X := X) (Y := Y) ii jj
                have uc := D_upper (X := X) (Y := Y) (ii + 1) jj
                obtain ⟨p1, hp1⟩ : ∃ p, D X Y ii (jj + 1) = p := ⟨_, rfl⟩
                obtain ⟨p0, hp0⟩ : ∃ p, D X Y ii jj = p := ⟨_, rfl⟩
                obtain ⟨q, hq⟩ : ∃ p, D X Y (ii + 1) jj = p := ⟨_, rfl⟩
                rw [hp1] at g1 u1
                rw [hp0] at g0 u0
                rw [hq] at gc uc
                have HD : Hid _ := And.intro hp1 (And.intro hp0 hq)
                have HW : Hid (Box wr R (ny + 1) a2 b2 c2 ∧ RowIs wr a2 (ny + 1) fa ∧ RowIs wr b2 (ny + 1) (fun j => D X Y ii j) ∧ RowIs wr c2 (ny + 1) f ∧ (∀ j, j ≤ jj → f j = D X Y (ii + 1) j) ∧ Base w wr w.heap.size (w.heap.size + 1) nx ny X Y) := ⟨hbox, hra, hrb, hrc, hf, hbase⟩
                have v1 : p1 ≤ 131072 := by omega
                have v0 : p0 ≤ 131072 := by omega
                have vc : q ≤ 131072 := by omega
                have j0 : (0 : Int) ≤ (jj : Int) := by omega
                have j1 : (jj : Int) < (ny : Int) := by omega
                have j2 : (0 : Int) ≤ (ii : Int) := by omega
                have j3 : (ii : Int) < (nx : Int) := by omega
                have j4 : (jj : Int) + 1 < (ny : Int) + 1 := by omega
                clear hbox hra hrb hrc hf hbase u1 u0 uc
                obtain ⟨M, hM⟩ : ∃ m, base3 X Y ii jj = m := ⟨_, rfl⟩
                obtain ⟨Q1, hQ1⟩ : ∃ z : Int, (q : Int) + 1 = z := ⟨_, rfl⟩
                obtain ⟨P1, hP1⟩ : ∃ z : Int, (p1 : Int) + 1 = z := ⟨_, rfl⟩
                have hwQ : IntKind.i64.wrap Q1 = Q1 := IntWalk.i64_in _ ⟨by omega, by omega⟩
                have hwP1 : IntKind.i64.wrap P1 = P1 := IntWalk.i64_in _ ⟨by omega, by omega⟩
                have hwj : IntKind.i64.wrap (jj : Int) = (jj : Int) := IntWalk.i64_in _ ⟨by omega, by omega⟩
                have hcb : c2 ≠ b2 := fun h => HA2.out.bc h.symm
                have j5 : (0 : Int) ≤ (jj : Int) + 1 := by omega
                have j6 : (jj : Int) < (ny : Int) + 1 := by omega
                have HM : Hid (base3 X Y ii jj = M) := hM
                by_cases hxy : X ii = Y jj
                · have hbb : (X ii == Y jj) = true := by simpa using hxy
                  have hmin : (if (p0 : Int) < (if Q1 < P1 then Q1 else P1) then (p0 : Int) else (if Q1 < P1 then Q1 else P1)) = (M : Int) := by
                    rw [← hM]; unfold base3 cost; rw [hp1, hp0, hq, if_pos hxy, Nat.add_zero]
                    split <;> split at * <;> omega
                  have hwP : IntKind.i64.wrap (p0 : Int) = (p0 : Int) := IntWalk.i64_in _ ⟨by omega, by omega⟩
                  have HXY : Hid _ := hxy
                  clear hp1 hp0 hq hM
                  clear hxy
                  go_wp2_with fail
                  go_quiet (fail)
                  go_wp2_with fail
                  go_region_held3 (fun w' => w'.cell? ⟨b2, jj + 1, none⟩ = some (.int .i64 p1) ∧ w'.cell? ⟨c2, jj, none⟩ = some (.int .i64 q) ∧ w'.cell? ⟨b2, jj, none⟩ = some (.int .i64 p0)) (((try dsimp only); (repeat' apply And.intro) <;> (first | (rw [World.cell?_setCell_other _ _ _ _ (by simp)]; assumption) | go_keep))) (fail)
                  obtain ⟨W1, hW1⟩ : ∃ W1, (wr.drewN (nq + 1)).setCell ⟨c2, jj + 1, none⟩ (.int .i64 (M : Int)) = W1 := ⟨_, rfl⟩
                  rw [hW1]
                  have K : Hid (Box W1 R (ny + 1) a2 b2 c2 ∧ RowIs W1 a2 (ny + 1) fa ∧ RowIs W1 b2 (ny + 1) (fun j => D X Y ii j) ∧ RowIs W1 c2 (ny + 1) (fun k => if k = jj + 1 then M else f k) ∧ Base w W1 w.heap.size (w.heap.size + 1) nx ny X Y) := by
                    rw [← hW1]
                    exact ⟨(HW.out.1.drewN _).set HA2.out.cR _, (HW.out.2.1.drewN _).other HA2.out.ac _, (HW.out.2.2.1.drewN _).other HA2.out.bc _, (HW.out.2.2.2.1.drewN _).set (jj + 1) M, (HW.out.2.2.2.2.2.drewN _).set HA2.out.cx HA2.out.cy HA2.out.lc _⟩
                  have HFF : Hid (∀ j, j ≤ jj → f j = D X Y (ii + 1) j) := HW.out.2.2.2.2.1
                  clear hW1 HW gx gy g1 g0 gc gn gf hwQ hwP1 hmin hwP hbb hQ1 hP1
                  by_cases hi1 : 1 ≤ ii
                  case neg =>
                    have hgd : decide ((1 : Int) < (ii : Int) + 1) = false := by simp; omega
                    have HE : Hid (D X Y (ii + 1) (jj + 1) = M) := by show _ = _; rw [D_plain ii jj (by omega)]; exact HM.out
                    go_wp2_with fail
                    go_quiet (fail)
                    clear hgd
                    go_wp2
                    go_roundw
                    case rel => first | exact ⟨jj + 1, _, by omega, by go_num, K.out.1.drewN _, K.out.2.1.drewN _, K.out.2.2.1.drewN _, K.out.2.2.2.1.drewN _, fill_ok HFF.out HE.out, K.out.2.2.2.2.drewN _⟩ | ((repeat apply Exists.intro); refine ⟨?_, rfl⟩; exact ⟨jj + 1, _, by omega, by go_num, K.out.1.drewN _, K.out.2.1.drewN _, K.out.2.2.1.drewN _, K.out.2.2.2.1.drewN _, fill_ok HFF.out HE.out, K.out.2.2.2.2.drewN _⟩)
                    case measure => simp [intOf]; omega
                  case pos =>
                    have hgi : (1 : Int) < (ii : Int) + 1 := by omega
                    by_cases hj1 : 1 ≤ jj
                    case neg =>
                      have hgd : decide ((1 : Int) < (jj : Int) + 1) = false := by simp; omega
                      have HE : Hid (D X Y (ii + 1) (jj + 1) = M) := by show _ = _; rw [D_plain ii jj (by omega)]; exact HM.out
                      go_wp2_with fail
                      go_quiet (fail)
                      clear hgd
                      go_wp2
                      go_roundw
                      case rel => first | exact ⟨jj + 1, _, by omega, by go_num, K.out.1.drewN _, K.out.2.1.drewN _, K.out.2.2.1.drewN _, K.out.2.2.2.1.drewN _, fill_ok HFF.out HE.out, K.out.2.2.2.2.drewN _⟩ | ((repeat apply Exists.intro); refine ⟨?_, rfl⟩; exact ⟨jj + 1, _, by omega, by go_num, K.out.1.drewN _, K.out.2.1.drewN _, K.out.2.2.1.drewN _, K.out.2.2.2.1.drewN _, fill_ok HFF.out HE.out, K.out.2.2.2.2.drewN _⟩)
                      case measure => simp [intOf]; omega
                    case pos =>
                      have hgj : (1 : Int) < (jj : Int) + 1 := by omega
                      obtain ⟨i', hi'⟩ : ∃ i', ii = i' + 1 := ⟨ii - 1, by omega⟩
                      obtain ⟨j', hj'⟩ : ∃ j', jj = j' + 1 := ⟨jj - 1, by omega⟩
                      have gx := K.out.2.2.2.2.x ii hlt
                      have gy := K.out.2.2.2.2.y jj hjl
                      have gx' := K.out.2.2.2.2.x i' (by omega)
                      have gy' := K.out.2.2.2.2.y j' (by omega)
                      have hwi : IntKind.i64.wrap (ii : Int) = (ii : Int) := IntWalk.i64_in _ ⟨by omega, by omega⟩
                      have hwi2 : IntKind.i64.wrap ((ii : Int) + 1 - 2) = (i' : Int) := by rw [show (ii : Int) + 1 - 2 = (i' : Int) by omega]; exact IntWalk.i64_in _ ⟨by omega, by omega⟩
                      have hwj2 : IntKind.i64.wrap ((jj : Int) + 1 - 2) = (j' : Int) := by rw [show (jj : Int) + 1 - 2 = (j' : Int) by omega]; exact IntWalk.i64_in _ ⟨by omega, by omega⟩
                      have l1 : (0 : Int) ≤ (i' : Int) := by omega
                      have l2 : (i' : Int) < (nx : Int) := by omega
                      have l3 : (0 : Int) ≤ (j' : Int) := by omega
                      have l4 : (j' : Int) < (ny : Int) := by omega
                      have l5 : (j' : Int) < (ny : Int) + 1 := by omega
                      have HI : Hid (ii = i' + 1 ∧ jj = j' + 1) := ⟨hi', hj'⟩
                      clear hi' hj' hi1 hj1
                      by_cases hs1 : X ii = Y j'
                      case neg =>
                        have hq1 : (X ii == Y j') = false := by simpa using hs1
                        have HE : Hid (D X Y (ii + 1) (jj + 1) = M) := by
                          show _ = _
                          obtain ⟨e1, e2⟩ := HI.out
                          subst e1 e2
                          rw [D_plain (i' + 1) (j' + 1) (fun h => hs1 h.2.2.1)]; exact HM.out
                        clear hs1
                        go_wp2_with fail
                        go_quiet (fail)
                        clear hq1 gx gy gx' gy' hwi hwi2 hwj2
                        go_wp2
                        go_roundw
                        case rel => first | exact ⟨jj + 1, _, by omega, by go_num, K.out.1.drewN _, K.out.2.1.drewN _, K.out.2.2.1.drewN _, K.out.2.2.2.1.drewN _, fill_ok HFF.out HE.out, K.out.2.2.2.2.drewN _⟩ | ((repeat apply Exists.intro); refine ⟨?_, rfl⟩; exact ⟨jj + 1, _, by omega, by go_num, K.out.1.drewN _, K.out.2.1.drewN _, K.out.2.2.1.drewN _, K.out.2.2.2.1.drewN _, fill_ok HFF.out HE.out, K.out.2.2.2.2.drewN _⟩)
                        case measure => simp [intOf]; omega
                      case pos =>
                        have hq1 : (X ii == Y j') = true := by simpa using hs1
                        by_cases hs2 : X i' = Y jj
                        case neg =>
                          have hq2 : (X i' == Y jj) = false := by simpa using hs2
                          have HE : Hid (D X Y (ii + 1) (jj + 1) = M) := by
                            show _ = _
                            obtain ⟨e1, e2⟩ := HI.out
                            subst e1 e2
                            rw [D_plain (i' + 1) (j' + 1) (fun h => hs2 h.2.2.2)]; exact HM.out
                          clear hs1 hs2
                          go_wp2_with fail
                          go_quiet (fail)
                          clear hq1 hq2 gx gy gx' gy' hwi hwi2 hwj2
                          go_wp2
                          go_roundw
                          case rel => first | exact ⟨jj + 1, _, by omega, by go_num, K.out.1.drewN _, K.out.2.1.drewN _, K.out.2.2.1.drewN _, K.out.2.2.2.1.drewN _, fill_ok HFF.out HE.out, K.out.2.2.2.2.drewN _⟩ | ((repeat apply Exists.intro); refine ⟨?_, rfl⟩; exact ⟨jj + 1, _, by omega, by go_num, K.out.1.drewN _, K.out.2.1.drewN _, K.out.2.2.1.drewN _, K.out.2.2.2.1.drewN _, fill_ok HFF.out HE.out, K.out.2.2.2.2.drewN _⟩)
                          case measure => simp [intOf]; omega
                        case pos =>
                          have hq2 : (X i' == Y jj) = true := by simpa using hs2
                          have hr := K.out.2.1.cell j' (by omega)
                          rw [HF.out i' HI.out.1 j' (by omega)] at hr
                          have hcn := K.out.2.2.2.1.cell (jj + 1) (by omega)
                          simp only [if_true] at hcn
                          have hfn := K.out.2.2.2.1.free (jj + 1)
                          obtain ⟨r, hrr⟩ : ∃ r, D X Y i' j' = r := ⟨_, rfl⟩
                          have ur := D_upper (X := X) (Y := Y) i' j'
                          rw [hrr] at hr ur
                          obtain ⟨M2, hM2⟩ : ∃ m, min M (r + 1) = m := ⟨_, rfl⟩
                          obtain ⟨R1, hR1⟩ : ∃ z : Int, (r : Int) + 1 = z := ⟨_, rfl⟩
                          have hmin2 : (if R1 < (M : Int) then R1 else (M : Int)) = (M2 : Int) := by split <;> omega
                          have hwR : IntKind.i64.wrap R1 = R1 := IntWalk.i64_in _ ⟨by omega, by omega⟩
                          have HE : Hid (D X Y (ii + 1) (jj + 1) = M2) := by
                            show _ = _
                            obtain ⟨e1, e2⟩ := HI.out
                            subst e1 e2
                            rw [D_swap i' j' ⟨hs1, hs2⟩, HM.out, hrr]; exact hM2
                          clear hs1 hs2 hrr hM2
                          go_wp2_with fail
                          go_quiet (fail)
                          clear hq1 hq2 gx gy gx' gy' hwi hwi2
                          go_wp2_with fail
                          go_region
                          go_wp2
                          go_roundw
                          case rel => exact ⟨jj + 1, fun k => if k = jj + 1 then M2 else (if k = jj + 1 then M else f k), by omega, by go_num, (K.out.1.drewN _).set HA2.out.cR _, (K.out.2.1.drewN _).other HA2.out.ac _, (K.out.2.2.1.drewN _).other HA2.out.bc _, (K.out.2.2.2.1.drewN _).set (jj + 1) M2, fill_ok2 HFF.out HE.out, (K.out.2.2.2.2.drewN _).set HA2.out.cx HA2.out.cy HA2.out.lc _⟩
                          case measure => simp [intOf]; omega
                · have hbb : (X ii == Y jj) = false := by simpa using hxy
                  obtain ⟨P0, hP0⟩ : ∃ z : Int, (p0 : Int) + 1 = z := ⟨_, rfl⟩
                  have hmin : (if P0 < (if Q1 < P1 then Q1 else P1) then P0 else (if Q1 < P1 then Q1 else P1)) = (M : Int) := by
                    rw [← hM]; unfold base3 cost; rw [hp1, hp0, hq, if_neg hxy]
                    split <;> split at * <;> omega
                  have hwP : IntKind.i64.wrap P0 = P0 := IntWalk.i64_in _ ⟨by omega, by omega⟩
                  have HXY : Hid _ := hxy
                  clear hp1 hp0 hq hM
                  clear hxy
                  go_wp2_with fail
                  go_quiet (fail)
                  go_wp2_with fail
                  go_region_held3 (fun w' => w'.cell? ⟨b2, jj + 1, none⟩ = some (.int .i64 p1) ∧ w'.cell? ⟨c2, jj, none⟩ = some (.int .i64 q) ∧ w'.cell? ⟨b2, jj, none⟩ = some (.int .i64 p0)) (((try dsimp only); (repeat' apply And.intro) <;> (first | (rw [World.cell?_setCell_other _ _ _ _ (by simp)]; assumption) | go_keep))) (fail)
                  obtain ⟨W1, hW1⟩ : ∃ W1, (wr.drewN (nq + 1)).setCell ⟨c2, jj + 1, none⟩ (.int .i64 (M : Int)) = W1 := ⟨_, rfl⟩
                  rw [hW1]
                  have K : Hid (Box W1 R (ny + 1) a2 b2 c2 ∧ RowIs W1 a2 (ny + 1) fa ∧ RowIs W1 b2 (ny + 1) (fun j => D X Y ii j) ∧ RowIs W1 c2 (ny + 1) (fun k => if k = jj + 1 then M else f k) ∧ Base w W1 w.heap.size (w.heap.size + 1) nx ny X Y) := by
                    rw [← hW1]
                    exact ⟨(HW.out.1.drewN _).set HA2.out.cR _, (HW.out.2.1.drewN _).other HA2.out.ac _, (HW.out.2.2.1.drewN _).other HA2.out.bc _, (HW.out.2.2.2.1.drewN _).set (jj + 1) M, (HW.out.2.2.2.2.2.drewN _).set HA2.out.cx HA2.out.cy HA2.out.lc _⟩
                  have HFF : Hid (∀ j, j ≤ jj → f j = D X Y (ii + 1) j) := HW.out.2.2.2.2.1
                  clear hP0
                  clear hW1 HW gx gy g1 g0 gc gn gf hwQ hwP1 hmin hwP hbb hQ1 hP1
                  by_cases hi1 : 1 ≤ ii
                  case neg =>
                    have hgd : decide ((1 : Int) < (ii : Int) + 1) = false := by simp; omega
                    have HE : Hid (D X Y (ii + 1) (jj + 1) = M) := by show _ = _; rw [D_plain ii jj (by omega)]; exact HM.out
                    go_wp2_with fail
                    go_quiet (fail)
                    clear hgd
                    go_wp2
                    go_roundw
                    case rel => first | exact ⟨jj + 1, _, by omega, by go_num, K.out.1.drewN _, K.out.2.1.drewN _, K.out.2.2.1.drewN _, K.out.2.2.2.1.drewN _, fill_ok HFF.out HE.out, K.out.2.2.2.2.drewN _⟩ | ((repeat apply Exists.intro); refine ⟨?_, rfl⟩; exact ⟨jj + 1, _, by omega, by go_num, K.out.1.drewN _, K.out.2.1.drewN _, K.out.2.2.1.drewN _, K.out.2.2.2.1.drewN _, fill_ok HFF.out HE.out, K.out.2.2.2.2.drewN _⟩)
                    case measure => simp [intOf]; omega
                  case pos =>
                    have hgi : (1 : Int) < (ii : Int) + 1 := by omega
                    by_cases hj1 : 1 ≤ jj
                    case neg =>
                      have hgd : decide ((1 : Int) < (jj : Int) + 1) = false := by simp; omega
                      have HE : Hid (D X Y (ii + 1) (jj + 1) = M) := by show _ = _; rw [D_plain ii jj (by omega)]; exact HM.out
                      go_wp2_with fail
                      go_quiet (fail)
                      clear hgd
                      go_wp2
                      go_roundw
                      case rel => first | exact ⟨jj + 1, _, by omega, by go_num, K.out.1.drewN _, K.out.2.1.drewN _, K.out.2.2.1.drewN _, K.out.2.2.2.1.drewN _, fill_ok HFF.out HE.out, K.out.2.2.2.2.drewN _⟩ | ((repeat apply Exists.intro); refine ⟨?_, rfl⟩; exact ⟨jj + 1, _, by omega, by go_num, K.out.1.drewN _, K.out.2.1.drewN _, K.out.2.2.1.drewN _, K.out.2.2.2.1.drewN _, fill_ok HFF.out HE.out, K.out.2.2.2.2.drewN _⟩)
                      case measure => simp [intOf]; omega
                    case pos =>
                      have hgj : (1 : Int) < (jj : Int) + 1 := by omega
                      obtain ⟨i', hi'⟩ : ∃ i', ii = i' + 1 := ⟨ii - 1, by omega⟩
                      obtain ⟨j', hj'⟩ : ∃ j', jj = j' + 1 := ⟨jj - 1, by omega⟩
                      have gx := K.out.2.2.2.2.x ii hlt
                      have gy := K.out.2.2.2.2.y jj hjl
                      have gx' := K.out.2.2.2.2.x i' (by omega)
                      have gy' := K.out.2.2.2.2.y j' (by omega)
                      have hwi : IntKind.i64.wrap (ii : Int) = (ii : Int) := IntWalk.i64_in _ ⟨by omega, by omega⟩
                      have hwi2 : IntKind.i64.wrap ((ii : Int) + 1 - 2) = (i' : Int) := by rw [show (ii : Int) + 1 - 2 = (i' : Int) by omega]; exact IntWalk.i64_in _ ⟨by omega, by omega⟩
                      have hwj2 : IntKind.i64.wrap ((jj : Int) + 1 - 2) = (j' : Int) := by rw [show (jj : Int) + 1 - 2 = (j' : Int) by omega]; exact IntWalk.i64_in _ ⟨by omega, by omega⟩
                      have l1 : (0 : Int) ≤ (i' : Int) := by omega
                      have l2 : (i' : Int) < (nx : Int) := by omega
                      have l3 : (0 : Int) ≤ (j' : Int) := by omega
                      have l4 : (j' : Int) < (ny : Int) := by omega
                      have l5 : (j' : Int) < (ny : Int) + 1 := by omega
                      have HI : Hid (ii = i' + 1 ∧ jj = j' + 1) := ⟨hi', hj'⟩
                      clear hi' hj' hi1 hj1
                      by_cases hs1 : X ii = Y j'
                      case neg =>
                        have hq1 : (X ii == Y j') = false := by simpa using hs1
                        have HE : Hid (D X Y (ii + 1) (jj + 1) = M) := by
                          show _ = _
                          obtain ⟨e1, e2⟩ := HI.out
                          subst e1 e2
                          rw [D_plain (i' + 1) (j' + 1) (fun h => hs1 h.2.2.1)]; exact HM.out
                        clear hs1
                        go_wp2_with fail
                        go_quiet (fail)
                        clear hq1 gx gy gx' gy' hwi hwi2 hwj2
                        go_wp2
                        go_roundw
                        case rel => first | exact ⟨jj + 1, _, by omega, by go_num, K.out.1.drewN _, K.out.2.1.drewN _, K.out.2.2.1.drewN _, K.out.2.2.2.1.drewN _, fill_ok HFF.out HE.out, K.out.2.2.2.2.drewN _⟩ | ((repeat apply Exists.intro); refine ⟨?_, rfl⟩; exact ⟨jj + 1, _, by omega, by go_num, K.out.1.drewN _, K.out.2.1.drewN _, K.out.2.2.1.drewN _, K.out.2.2.2.1.drewN _, fill_ok HFF.out HE.out, K.out.2.2.2.2.drewN _⟩)
                        case measure => simp [intOf]; omega
                      case pos =>
                        have hq1 : (X ii == Y j') = true := by simpa using hs1
                        by_cases hs2 : X i' = Y jj
                        case neg =>
                          have hq2 : (X i' == Y jj) = false := by simpa using hs2
                          have HE : Hid (D X Y (ii + 1) (jj + 1) = M) := by
                            show _ = _
                            obtain ⟨e1, e2⟩ := HI.out
                            subst e1 e2
                            rw [D_plain (i' + 1) (j' + 1) (fun h => hs2 h.2.2.2)]; exact HM.out
                          clear hs1 hs2
                          go_wp2_with fail
                          go_quiet (fail)
                          clear hq1 hq2 gx gy gx' gy' hwi hwi2 hwj2
                          go_wp2
                          go_roundw
                          case rel => first | exact ⟨jj + 1, _, by omega, by go_num, K.out.1.drewN _, K.out.2.1.drewN _, K.out.2.2.1.drewN _, K.out.2.2.2.1.drewN _, fill_ok HFF.out HE.out, K.out.2.2.2.2.drewN _⟩ | ((repeat apply Exists.intro); refine ⟨?_, rfl⟩; exact ⟨jj + 1, _, by omega, by go_num, K.out.1.drewN _, K.out.2.1.drewN _, K.out.2.2.1.drewN _, K.out.2.2.2.1.drewN _, fill_ok HFF.out HE.out, K.out.2.2.2.2.drewN _⟩)
                          case measure => simp [intOf]; omega
                        case pos =>
                          have hq2 : (X i' == Y jj) = true := by simpa using hs2
                          have hr := K.out.2.1.cell j' (by omega)
                          rw [HF.out i' HI.out.1 j' (by omega)] at hr
                          have hcn := K.out.2.2.2.1.cell (jj + 1) (by omega)
                          simp only [if_true] at hcn
                          have hfn := K.out.2.2.2.1.free (jj + 1)
                          obtain ⟨r, hrr⟩ : ∃ r, D X Y i' j' = r := ⟨_, rfl⟩
                          have ur := D_upper (X := X) (Y := Y) i' j'
                          rw [hrr] at hr ur
                          obtain ⟨M2, hM2⟩ : ∃ m, min M (r + 1) = m := ⟨_, rfl⟩
                          obtain ⟨R1, hR1⟩ : ∃ z : Int, (r : Int) + 1 = z := ⟨_, rfl⟩
                          have hmin2 : (if R1 < (M : Int) then R1 else (M : Int)) = (M2 : Int) := by split <;> omega
                          have hwR : IntKind.i64.wrap R1 = R1 := IntWalk.i64_in _ ⟨by omega, by omega⟩
                          have HE : Hid (D X Y (ii + 1) (jj + 1) = M2) := by
                            show _ = _
                            obtain ⟨e1, e2⟩ := HI.out
                            subst e1 e2
                            rw [D_swap i' j' ⟨hs1, hs2⟩, HM.out, hrr]; exact hM2
                          clear hs1 hs2 hrr hM2
                          go_wp2_with fail
                          go_quiet (fail)
                          clear hq1 hq2 gx gy gx' gy' hwi hwi2
                          go_wp2_with fail
                          go_region
                          go_wp2
                          go_roundw
                          case rel => exact ⟨jj + 1, fun k => if k = jj + 1 then M2 else (if k = jj + 1 then M else f k), by omega, by go_num, (K.out.1.drewN _).set HA2.out.cR _, (K.out.2.1.drewN _).other HA2.out.ac _, (K.out.2.2.1.drewN _).other HA2.out.bc _, (K.out.2.2.2.1.drewN _).set (jj + 1) M2, fill_ok2 HFF.out HE.out, (K.out.2.2.2.2.drewN _).set HA2.out.cx HA2.out.cy HA2.out.lc _⟩
                          case measure => simp [intOf]; omega
              · obtain rfl : jj = ny := by omega
                have k0 := hbox.c0
                have k1 := hbox.c1
                have k2 := hbox.c2
                have z0 := hbox.free 0
                have z1 := hbox.free 1
                have z2 := hbox.free 2
                have HW : Hid (Box wr R (jj + 1) a2 b2 c2 ∧ RowIs wr a2 (jj + 1) fa ∧ RowIs wr b2 (jj + 1) (fun j => D X Y ii j) ∧ RowIs wr c2 (jj + 1) f ∧ (∀ j, j ≤ jj → f j = D X Y (ii + 1) j) ∧ Base w wr w.heap.size (w.heap.size + 1) nx jj X Y) := ⟨hbox, hra, hrb, hrc, hf, hbase⟩
                clear hbox hra hrb hrc hf hbase
                go_wp2
                clear k0 k1 k2 z0 z1 z2
                go_roundw
                case rel => exact ⟨ii + 1, b2, c2, a2, _, _, by omega, by go_num, box_turn HW.out.1, HA2.out.turn, row_turn HW.out.2.2.1 HA2.out.bR _ _ _, fun i' h j _ => by rw [show i' = ii by omega], (row_turn HW.out.2.2.2.1 HA2.out.cR _ _ _).congr (fun j hj => HW.out.2.2.2.2.1 j (by omega)), row_turn HW.out.2.1 HA2.out.aR _ _ _, ((HW.out.2.2.2.2.2.set HA2.out.Rx HA2.out.Ry HA2.out.lR _).set HA2.out.Rx HA2.out.Ry HA2.out.lR _).set HA2.out.Rx HA2.out.Ry HA2.out.lR _⟩
                case measure => simp [intOf]; omega
          · obtain rfl : ii = nx := by omega
            have hc1 := hbox.c1
            have hcb := hrb.cell ny (by omega)
            have HB : Hid _ := hbase.below
            clear hbox hap hra hfa hrb hrc hbase
            go_wp2
            go_ret
            exact ⟨rfl, HB.out⟩
end Go.Proofs.Qxb6001239aMods

/-
  SEAT b6001239aM: rows of numbers in blocks of their own; the runes of a string in memory.
-/
import Derived.Test.Qxb6001239aModsProg
import Derived.Test.Qxb6001239aModsPlain
import Derived.WalkKit
import Derived.ProofKit
import Derived.WalkSpells
import Derived.WalkLawsBesides
import Derived.Deep.QuietTactic
import Derived.BigQuiet
import Derived.BigRegion
import Derived.Deep.RegionHeld3
import Derived.Deep.DrawnRows
import Derived.Deep.DeepCutAuto
import Derived.Deep.LoopGhost
import Derived.Deep.Light
import Derived.Laws.IdiomStrings
namespace Go.Proofs.Qxb6001239aMods
open Go.RowKit

/-- The runes that '[]rune(s)' gives, from place i on. -/
def runeList (s : ByteArray) : Nat → Nat → List Int
  | 0, _ => []
  | b + 1, i => if i < s.size then ((Utf8.decode s i).1 : Int) :: runeList s b (i + (Utf8.decode s i).2) else []

def runesOf (s : ByteArray) : List Int := runeList s s.size 0

theorem runesFrom_eq (s : ByteArray) : ∀ (b i : Nat) (acc : Array Value), Conv.runesFrom s b i acc = acc ++ ((runeList s b i).map (Value.int .i32)).toArray
  | 0, i, acc => by simp [Conv.runesFrom, runeList]
  | b + 1, i, acc => by
    unfold Conv.runesFrom runeList
    split
    · show Conv.runesFrom s b (i + (Utf8.decode s i).2) (acc.push (.int .i32 (Int.ofNat (Utf8.decode s i).1))) = _
      rw [runesFrom_eq s b]
      simp
    · simp

theorem runesFrom_of (s : ByteArray) : Conv.runesFrom s s.size 0 #[] = ((runesOf s).map (Value.int .i32)).toArray := by rw [runesFrom_eq]; simp [runesOf]

theorem runeList_le (s : ByteArray) : ∀ b i, (runeList s b i).length ≤ b
  | 0, i => by simp [runeList]
  | b + 1, i => by
    unfold runeList
    split
    · have := runeList_le s b (i + (Utf8.decode s i).2); simp; omega
    · simp

theorem runesOf_le (s : ByteArray) : (runesOf s).length ≤ s.size := runeList_le s _ _

/-- The runes of a string, in a block of the call's own. -/
theorem run_runes (w : World) (s : ByteArray) (hs : s.size ≤ 70368744177664) :
    ∃ cap cs, (convert 9 24 (.string s)).run Trym.prog w = .ok (.slice (some ⟨w.heap.size, 0, none⟩) (runesOf s).length cap) (w.drew.alloc (.cells cs 21)) ∧
      (∀ j, j < (runesOf s).length → cs[j]? = some (.int .i32 ((runesOf s).getD j 0))) ∧ (runesOf s).length ≤ cap := by
  have hsz : (Conv.runesFrom s s.size 0 #[]).size = (runesOf s).length := by rw [runesFrom_of]; simp
  have hr := run_runes_of_string (P := Trym.prog) w 9 24 21 s Trym.underlying9 Trym.underlying24 Trym.underlying21 (by rw [hsz]; have := runesOf_le s; omega)
  rw [hsz] at hr
  refine ⟨_, _, hr, ?_, grownCap_ge _ _ _ _⟩
  intro j hj
  rw [runesFrom_of, Array.getElem?_append_left (by simpa using hj)]
  simp [List.getD, hj]

/-- Block g holds n numbers, the j-th 'f j'. -/
def RowIs (w : World) (g n : Nat) (f : Nat → Nat) : Prop :=
  ∃ cur, w.heap[g]? = some (.cells cur 3 (0, 0)) ∧ cur.size = n ∧ ∀ j, j < n → cur[j]? = some (.int .i64 (f j : Int))

theorem RowIs.lt {w : World} {g n : Nat} {f : Nat → Nat} (h : RowIs w g n f) : g < w.heap.size := by
  obtain ⟨cur, h1, _⟩ := h
  exact (Array.getElem?_eq_some_iff.1 h1).1

theorem RowIs.cell {w : World} {g n : Nat} {f : Nat → Nat} (h : RowIs w g n f) (j : Nat) (hj : j < n) : w.cell? ⟨g, j, none⟩ = some (.int .i64 (f j : Int)) := by
  obtain ⟨cur, h1, h2, h3⟩ := h
  rw [cell_of_row w g j cur 3 (0, 0) h1]
  exact h3 j hj

theorem RowIs.free {w : World} {g n : Nat} {f : Nat → Nat} (h : RowIs w g n f) (j : Nat) : w.frozen? ⟨g, j, none⟩ = false := by
  obtain ⟨cur, h1, _⟩ := h
  exact frozen_of_row w g j cur 3 h1

theorem RowIs.set {w : World} {g n : Nat} {f : Nat → Nat} (h : RowIs w g n f) (i v : Nat) : RowIs (w.setCell ⟨g, i, none⟩ (.int .i64 (v : Int))) g n (fun k => if k = i then v else f k) := by
  obtain ⟨cur, h1, h2, h3⟩ := h
  refine ⟨cur.setIfInBounds i (.int .i64 (v : Int)), heap_setCell_same w g i cur 3 _ h1, by simpa using h2, fun j hj => ?_⟩
  rw [Array.getElem?_setIfInBounds]
  by_cases hij : i = j
  · subst hij
    simp [h2, hj]
  · rw [if_neg hij]
    show _ = some (Value.int .i64 ((if j = i then v else f j : Nat) : Int))
    rw [if_neg (by omega)]
    exact h3 j hj

theorem RowIs.other {w : World} {g n : Nat} {f : Nat → Nat} (h : RowIs w g n f) {a : Addr} (ha : g ≠ a.block) (u : Value) : RowIs (w.setCell a u) g n f := by
  obtain ⟨cur, h1, h2⟩ := h
  exact ⟨cur, by rw [heap_setCell_other w a g u ha]; exact h1, h2⟩

theorem RowIs.drewN {w : World} {g n : Nat} {f : Nat → Nat} (h : RowIs w g n f) (m : Nat) : RowIs (w.drewN m) g n f := h
theorem RowIs.alloc {w : World} {g n : Nat} {f : Nat → Nat} (h : RowIs w g n f) (o : Obj) : RowIs (w.alloc o) g n f := by
  have hl := h.lt
  obtain ⟨cur, h1, h2⟩ := h
  exact ⟨cur, by rw [Below.heap_alloc w o g hl]; exact h1, h2⟩
theorem RowIs.congr {w : World} {g n : Nat} {f f' : Nat → Nat} (h : RowIs w g n f) (he : ∀ j, j < n → f j = f' j) : RowIs w g n f' := by
  obtain ⟨cur, h1, h2, h3⟩ := h
  exact ⟨cur, h1, h2, fun j hj => by rw [h3 j hj, he j hj]⟩

/-- A row as make leaves it. -/
theorem RowIs.made (w : World) (n : Nat) : RowIs (w.alloc (.cells (madeCells #[Value.int .i64 0] n) 3)) w.heap.size n (fun _ => 0) := by
  refine ⟨_, heap_alloc_new w _, size_madeCells _ _, fun j hj => ?_⟩
  have := toList_madeCells_one (.int .i64 0) n
  have e : (madeCells #[Value.int .i64 0] n)[j]? = (List.replicate n (Value.int .i64 0))[j]? := by rw [← this]; simp
  rw [e, List.getElem?_replicate, if_pos hj]
  rfl

/-- What does not turn: the two strings' runes; what was there before the call. -/
structure Base (w0 w : World) (bx by' nx ny : Nat) (X Y : Nat → Int) : Prop where
  x : ∀ k, k < nx → w.cell? ⟨bx, k, none⟩ = some (.int .i32 (X k))
  y : ∀ k, k < ny → w.cell? ⟨by', k, none⟩ = some (.int .i32 (Y k))
  below : Below w0.heap.size w0 w

theorem Base.set {w0 w : World} {bx by' nx ny : Nat} {X Y : Nat → Int} (h : Base w0 w bx by' nx ny X Y) {a : Addr} (h1 : a.block ≠ bx) (h2 : a.block ≠ by') (h3 : w0.heap.size ≤ a.block) (u : Value) : Base w0 (w.setCell a u) bx by' nx ny X Y :=
  ⟨fun k hk => by rw [World.cell?_setCell_far _ _ _ _ h1]; exact h.x k hk, fun k hk => by rw [World.cell?_setCell_far _ _ _ _ h2]; exact h.y k hk, h.below.setCell h3 u⟩
theorem Base.drewN {w0 w : World} {bx by' nx ny : Nat} {X Y : Nat → Int} (h : Base w0 w bx by' nx ny X Y) (m : Nat) : Base w0 (w.drewN m) bx by' nx ny X Y :=
  ⟨h.x, h.y, ⟨h.below.os, h.below.tape, h.below.output, h.below.size, h.below.block⟩⟩

/-- The box that holds the three rows. -/
structure Box (w : World) (R n a b c : Nat) : Prop where
  c0 : w.cell? ⟨R, 0, none⟩ = some (.slice (some ⟨a, 0, none⟩) n n)
  c1 : w.cell? ⟨R, 1, none⟩ = some (.slice (some ⟨b, 0, none⟩) n n)
  c2 : w.cell? ⟨R, 2, none⟩ = some (.slice (some ⟨c, 0, none⟩) n n)
  free : ∀ j, w.frozen? ⟨R, j, none⟩ = false

theorem Box.set {w : World} {R n a b c : Nat} (h : Box w R n a b c) {p : Addr} (hp : p.block ≠ R) (u : Value) : Box (w.setCell p u) R n a b c :=
  ⟨by rw [World.cell?_setCell_far _ _ _ _ hp]; exact h.c0, by rw [World.cell?_setCell_far _ _ _ _ hp]; exact h.c1, by rw [World.cell?_setCell_far _ _ _ _ hp]; exact h.c2, fun j => by rw [World.frozen?_setCell]; exact h.free j⟩
theorem Box.drewN {w : World} {R n a b c : Nat} (h : Box w R n a b c) (m : Nat) : Box (w.drewN m) R n a b c := ⟨h.c0, h.c1, h.c2, h.free⟩

/-- All six blocks lie apart. -/
structure Apart (base bx by' R a b c : Nat) : Prop where
  ab : a ≠ b
  ac : a ≠ c
  bc : b ≠ c
  aR : a ≠ R
  bR : b ≠ R
  cR : c ≠ R
  ax : a ≠ bx
  bx' : b ≠ bx
  cx : c ≠ bx
  Rx : R ≠ bx
  ay : a ≠ by'
  by'' : b ≠ by'
  cy : c ≠ by'
  Ry : R ≠ by'
  la : base ≤ a
  lb : base ≤ b
  lc : base ≤ c
  lR : base ≤ R
theorem Apart.turn {base bx by' R a b c : Nat} (h : Apart base bx by' R a b c) : Apart base bx by' R b c a :=
  ⟨h.bc, h.ab.symm, h.ac.symm, h.bR, h.cR, h.aR, h.bx', h.cx, h.ax, h.Rx, h.by'', h.cy, h.ay, h.Ry, h.lb, h.lc, h.la, h.lR⟩
end Go.Proofs.Qxb6001239aMods

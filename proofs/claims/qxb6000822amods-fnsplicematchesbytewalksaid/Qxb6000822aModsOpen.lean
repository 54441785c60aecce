/-
  SEAT b6000822aM: the arguments as they came in: a slice of integers, a slice of slices of bytes.
-/
import Derived.Test.Qxb6000822aModsProg
import Derived.Test.Qxb6000822aModsMem
import Derived.Deep.Matrix
namespace Go.Proofs.Qxb6000822aMods
open Go.ChangeShapes Go.WideShapes Go.ChangeAt Go.RowKit Go.Deep

/-- From the cells of a row, as the reader gives them. -/
theorem isB_of_cells {k : IntKind} {W : World} {x : Addr} {len cap : Nat} {zs : List Int} (hl : len ≤ cap) (hm : cap ≤ maxLen) (hz : zs.length = cap) (hcell : ∀ i, i < cap → W.cell? (x.add i) = some (.int k (zs.getD i 0))) :
    IsB k W (.slice (some x) len cap) (zs.take len) := by
  have hlen : (zs.take len).length = len := by simp; omega
  obtain ⟨b, off, spot⟩ := x
  refine ⟨_, b, off, cap, by rw [hlen], by rw [hlen]; exact hl, hm, (fun h => by cases h), ?_, ?_⟩
  · intro hpos
    rw [hlen] at hpos
    have hc := hcell 0 (by omega)
    have hspot : spot = none := by simpa [Addr.add] using World.cell?_spot hc
    rw [hspot]
  · intro i hi
    rw [hlen] at hi
    have hc := hcell 0 (by omega)
    have hspot : spot = none := by simpa [Addr.add] using World.cell?_spot hc
    subst hspot
    have hci := hcell i (by omega)
    rw [Addr.add_lit] at hci
    rw [hci]
    simp [List.getD, hi]

theorem isB_of_trod {H : Type} {enc : TypeId × Value → H} {W : World} {t e : TypeId} {k : IntKind} (ht : Trym.prog.underlying t = some (.slice e)) (he : Trym.prog.underlying e = some (.int k)) (ce : Trym.prog.cellsOf e = 1)
    {a : Option Addr} {len cap : Nat} {d : DataW H} {p : List MemPlace} (h : DataW.Trod enc Trym.prog W 0 (fun _ => true) true t (.slice a len cap) d p) : ∃ zs, IsB k W (.slice a len cap) zs := by
  obtain ⟨fuel, hf⟩ := h
  rcases open_ints ht he ce hf with ⟨hcs, _⟩ | ⟨x, l, c, zs, hcs, _, hl, hm, hz, _, hcell, _⟩
  · simp [Value.cells] at hcs
    obtain ⟨rfl, rfl, rfl⟩ := hcs
    exact ⟨[], IsB.nil _ _⟩
  · simp [Value.cells] at hcs
    obtain ⟨rfl, rfl, rfl⟩ := hcs
    have hz' : zs.length = cap := by simpa using hz
    exact ⟨zs.take len, isB_of_cells hl hm hz' (fun i hi => hcell i (by omega))⟩

theorem isT_of_trod {H : Type} {enc : TypeId × Value → H} {W : World} {t e q : TypeId} (ht : Trym.prog.underlying t = some (.slice e)) (he : Trym.prog.underlying e = some (.slice q)) (hq : Trym.prog.underlying q = some (.int .u8)) (ce : Trym.prog.cellsOf e = 1) (cq : Trym.prog.cellsOf q = 1)
    {a : Option Addr} {len cap : Nat} {d : DataW H} {p : List MemPlace} (h : DataW.Trod enc Trym.prog W 0 (fun _ => true) true t (.slice a len cap) d p) : ∃ ts, IsT W (.slice a len cap) ts := by
  obtain ⟨fuel, hf⟩ := h
  rcases open_int_rows ht he hq ce cq hf with ⟨hcs, _⟩ | ⟨x, l, c, A, L, C, Z, hcs, _, hl, hm, _, hrow⟩
  · simp [Value.cells] at hcs
    obtain ⟨rfl, rfl, rfl⟩ := hcs
    exact ⟨[], none, 0, 0, 0, rfl, Nat.le_refl _, by decide, fun _ => rfl, fun h => absurd h (by simp), fun i h => absurd h (by simp)⟩
  · simp [Value.cells] at hcs
    obtain ⟨rfl, rfl, rfl⟩ := hcs
    refine ⟨(List.range len).map fun r => (Z r).take (L r), ?_⟩
    have hlen : ((List.range len).map fun r => (Z r).take (L r)).length = len := by simp
    obtain ⟨b, off, spot⟩ := x
    refine ⟨_, b, off, cap, by rw [hlen], by rw [hlen]; exact hl, hm, (fun h => by cases h), ?_, ?_⟩
    · intro hpos
      rw [hlen] at hpos
      have hc := (hrow 0 (by omega)).1
      have hspot : spot = none := by simpa [Addr.add] using World.cell?_spot hc
      rw [hspot]
    · intro i hi
      rw [hlen] at hi
      have hc := (hrow 0 (by omega)).1
      have hspot : spot = none := by simpa [Addr.add] using World.cell?_spot hc
      subst hspot
      obtain ⟨h1, h2, h3, h4, _, h5, h6⟩ := hrow i (by omega)
      rw [Addr.add_lit] at h1
      refine ⟨_, h1, ?_⟩
      have e1 : ((List.range len).map fun r => (Z r).take (L r)).getD i [] = (Z i).take (L i) := by simp [List.getD, hi]
      rw [e1]
      cases hA : A i with
      | none =>
        have hC : C i = 0 := h5 hA
        have hL : L i = 0 := by omega
        rw [hL, hC]
        simpa using IsB.nil .u8 W
      | some a' => exact isB_of_cells h2 h3 h4 (h6 a' hA).2
end Go.Proofs.Qxb6000822aMods

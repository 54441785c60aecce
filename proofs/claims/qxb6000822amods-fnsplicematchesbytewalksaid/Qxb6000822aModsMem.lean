/-
  SEAT b6000822aM: what a slice of integers, a slice of such slices, a slice of edits is in memory; nothing of a walk.
-/
import Derived.WalkKit
import Derived.ProofKit
import Derived.Below
import Derived.Deep.Draws
import Derived.Deep.Quiet
namespace Go.Proofs.Qxb6000822aMods
open Go.RowKit

/-- 'v' is a slice whose elements are the numbers 'zs' (nil, empty or not). -/
def IsB (k : IntKind) (w : World) (v : Value) (zs : List Int) : Prop :=
  ∃ ao b off cap, v = .slice ao zs.length cap ∧ zs.length ≤ cap ∧ cap ≤ maxLen ∧ (ao = none → cap = 0) ∧ (0 < zs.length → ao = some ⟨b, off, none⟩) ∧
    ∀ i, i < zs.length → w.cell? ⟨b, off + i, none⟩ = some (.int k (zs.getD i 0))

/-- 'v' is a slice of slices of bytes. -/
def IsT (w : World) (v : Value) (ts : List (List Int)) : Prop :=
  ∃ ao b off cap, v = .slice ao ts.length cap ∧ ts.length ≤ cap ∧ cap ≤ maxLen ∧ (ao = none → cap = 0) ∧ (0 < ts.length → ao = some ⟨b, off, none⟩) ∧
    ∀ i, i < ts.length → ∃ u, w.cell? ⟨b, off + i, none⟩ = some u ∧ IsB .u8 w u (ts.getD i [])

/-- An edit: where, how many bytes, the text in their place. -/
abbrev Ed := Nat × Nat × List Int

/-- 'v' is a slice of edits. -/
def IsE (w : World) (v : Value) (es : List Ed) : Prop :=
  ∃ ao b off cap, v = .slice ao es.length cap ∧ es.length ≤ cap ∧ cap ≤ maxLen ∧ (ao = none → cap = 0) ∧ (0 < es.length → ao = some ⟨b, off, none⟩) ∧
    ∀ i, i < es.length → ∃ u, w.cell? ⟨b, off + i * 3, none⟩ = some (.int .i64 ((es.getD i (0, 0, [])).1 : Int)) ∧ w.cell? ⟨b, off + i * 3 + 1, none⟩ = some (.int .i64 ((es.getD i (0, 0, [])).2.1 : Int)) ∧
      w.cell? ⟨b, off + i * 3 + 2, none⟩ = some u ∧ IsB .u8 w u (es.getD i (0, 0, [])).2.2

/-- What lay in w lies in w'. -/
def Keeps (w w' : World) : Prop := ∀ b o v, w.cell? ⟨b, o, none⟩ = some v → w'.cell? ⟨b, o, none⟩ = some v

theorem Keeps.refl (w : World) : Keeps w w := fun _ _ _ h => h
theorem Keeps.trans {a b c : World} (h : Keeps a b) (k : Keeps b c) : Keeps a c := fun x o v hv => k x o v (h x o v hv)
theorem keeps_of_below {w w' : World} (h : Below w.heap.size w w') : Keeps w w' := fun b o _ hv => (h.cell (p := ⟨b, o, none⟩) (World.block_lt_of_cell? w _ hv)).trans hv

theorem IsB.keep {k : IntKind} {w w' : World} {v : Value} {zs : List Int} (h : IsB k w v zs) (hk : Keeps w w') : IsB k w' v zs := by
  obtain ⟨ao, b, off, cap, rfl, h1, h2, h3, h4, h5⟩ := h
  exact ⟨ao, b, off, cap, rfl, h1, h2, h3, h4, fun i hi => hk _ _ _ (h5 i hi)⟩

theorem IsT.keep {w w' : World} {v : Value} {ts : List (List Int)} (h : IsT w v ts) (hk : Keeps w w') : IsT w' v ts := by
  obtain ⟨ao, b, off, cap, rfl, h1, h2, h3, h4, h5⟩ := h
  refine ⟨ao, b, off, cap, rfl, h1, h2, h3, h4, fun i hi => ?_⟩
  obtain ⟨u, hu, hb⟩ := h5 i hi
  exact ⟨u, hk _ _ _ hu, hb.keep hk⟩

theorem IsE.keep {w w' : World} {v : Value} {es : List Ed} (h : IsE w v es) (hk : Keeps w w') : IsE w' v es := by
  obtain ⟨ao, b, off, cap, rfl, h1, h2, h3, h4, h5⟩ := h
  refine ⟨ao, b, off, cap, rfl, h1, h2, h3, h4, fun i hi => ?_⟩
  obtain ⟨u, hx, hy, hu, hb⟩ := h5 i hi
  exact ⟨u, hk _ _ _ hx, hk _ _ _ hy, hk _ _ _ hu, hb.keep hk⟩

theorem IsB.below {k : IntKind} {w w' : World} {v : Value} {zs : List Int} (h : IsB k w v zs) (hb : Below w.heap.size w w') : IsB k w' v zs := h.keep (keeps_of_below hb)
theorem IsT.below {w w' : World} {v : Value} {ts : List (List Int)} (h : IsT w v ts) (hb : Below w.heap.size w w') : IsT w' v ts := h.keep (keeps_of_below hb)
theorem IsE.below {w w' : World} {v : Value} {es : List Ed} (h : IsE w v es) (hb : Below w.heap.size w w') : IsE w' v es := h.keep (keeps_of_below hb)

theorem IsB.nil (k : IntKind) (w : World) : IsB k w (.slice none 0 0) [] := ⟨none, 0, 0, 0, rfl, Nat.le_refl _, by decide, fun _ => rfl, fun h => absurd h (by simp), fun i h => absurd h (by simp)⟩

theorem below_drewN {B : Nat} {W w : World} (h : Below B W w) (n : Nat) : Below B W (w.drewN n) := ⟨h.os, h.tape, h.output, h.size, h.block⟩

/-- One cell more of a row that is being filled. -/
theorem set_fill (us : List Value) (z v : Value) (n k : Nat) (h : us.length = k) (hk : k < n) : (us ++ List.replicate (n - k) z).set k v = (us ++ [v]) ++ List.replicate (n - (k + 1)) z := by
  obtain ⟨m, hm⟩ : ∃ m, n - k = m + 1 := ⟨n - k - 1, by omega⟩
  have hm' : n - (k + 1) = m := by omega
  rw [hm, hm', List.replicate_succ, List.set_append_right _ _ (by omega)]
  simp [h]

theorem take_map_snoc (f : Int → Value) (zs : List Int) (k : Nat) (hk : k < zs.length) : (zs.take k).map f ++ [f (zs.getD k 0)] = (zs.take (k + 1)).map f := by
  rw [List.take_succ_eq_append_getElem hk, List.map_append]
  simp only [List.getD, List.getElem?_eq_getElem hk, Option.getD_some, List.map_cons, List.map_nil]

/-- What a row of numbers that the call owns is. -/
theorem isB_of_own {k : IntKind} {w : World} {base : Nat} {e : TypeId} {g n cap : Nat} {zs : List Int} (h : w.ownsRow base e 1 (.slice (some ⟨g, 0, none⟩) n cap) n (zs.map (Value.int k))) (hn : zs.length = n) :
    IsB k w (.slice (some ⟨g, 0, none⟩) n cap) zs := by
  subst hn
  have hc : ∀ i, i < zs.length → w.cell? ⟨g, 0 + i, none⟩ = some (.int k (zs.getD i 0)) := by
    intro i hi
    rw [Nat.zero_add, h.cellAt i (by omega)]
    simp [hi]
  rcases h.2 with ⟨h', _⟩ | ⟨g', cap', cur, h', _, _, h1, h2, _⟩
  · simp at h'
  · simp only [Value.slice.injEq, Option.some.injEq, Addr.mk.injEq, and_true, true_and] at h'
    obtain ⟨rfl, rfl⟩ := h'
    exact ⟨_, g, 0, cap, rfl, h1, h2, (fun h => by cases h), fun _ => rfl, hc⟩
end Go.Proofs.Qxb6000822aMods

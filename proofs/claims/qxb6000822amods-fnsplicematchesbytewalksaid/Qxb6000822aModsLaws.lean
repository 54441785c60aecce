/-
  SEAT b6000822aM: the three splice laws as plain facts on lists. No Go in sight.
-/
import Derived.Test.Qxb6000822aModsPlain
import Derived.Test.Qxb6000822aModsGuards
namespace Go.Proofs.Qxb6000822aMods

theorem IsT.shape {w : World} {v : Value} {ts : List (List Int)} (h : IsT w v ts) : ∃ ao cap, v = .slice ao ts.length cap := by
  obtain ⟨ao, b, off, cap, rfl, _⟩ := h
  exact ⟨ao, cap, rfl⟩

theorem eds_of {d : Nat} : ∀ {p : Nat} {z1 z2 : List Int} {ts : List (List Int)}, z1.length = z2.length → z1.length = ts.length → ValidI d p z1 z2 →
    ∃ es : List Ed, z1 = es.map (fun e => (e.1 : Int)) ∧ z2 = es.map (fun e => (e.2.1 : Int)) ∧ ts = es.map (fun e => e.2.2) ∧ Valid d p es
  | _, [], [], [], _, _, _ => ⟨[], rfl, rfl, rfl, trivial⟩
  | p, a :: z1, l :: z2, t :: ts, h1, h2, hv => by
    obtain ⟨g1, g2, g3, g4, g5⟩ := hv
    obtain ⟨a', rfl⟩ := Int.eq_ofNat_of_zero_le (show 0 ≤ a by omega)
    obtain ⟨l', rfl⟩ := Int.eq_ofNat_of_zero_le (show 0 ≤ l by omega)
    have hr : ValidI d ((a' + l' : Nat) : Int) z1 z2 := by simpa using g5
    obtain ⟨es, e1, e2, e3, e4⟩ := eds_of (by simpa using h1) (by simpa using h2) hr
    exact ⟨(a', l', t) :: es, by simp [e1], by simp [e2], by simp [e3], by omega, by show a' + l' ≤ d; omega, e4⟩

theorem totL_eds : ∀ es : List Ed, totL (es.map fun e => e.2.2) = tl es
  | [] => rfl
  | e :: es => by simp only [List.map_cons, totL, tl, totL_eds es]

/-- What stood before the first edit stands. -/
theorem spl_take {doc : List Int} {es : List Ed} {p : Nat} (h : Valid doc.length p es) (_ : p ≤ doc.length) : ∀ q, q ≤ p → spl doc q es = (doc.drop q).take (p - q) ++ spl doc p es := by
  intro q hq
  cases es with
  | nil =>
    simp only [spl]
    have e : doc.drop p = (doc.drop q).drop (p - q) := by rw [List.drop_drop]; congr 1; omega
    rw [e, List.take_append_drop]
  | cons e es =>
    obtain ⟨h1, h2, h3⟩ := h
    have e1 : doc.drop p = (doc.drop q).drop (p - q) := by rw [List.drop_drop]; congr 1; omega
    have e2 : e.1 - q = (p - q) + (e.1 - p) := by omega
    have e3 : (doc.drop q).take (e.1 - q) = (doc.drop q).take (p - q) ++ (doc.drop p).take (e.1 - p) := by rw [e1, e2, List.take_add]
    simp only [spl]
    rw [e3, List.append_assoc]

/-- One edit alone, behind all the later ones. -/
theorem spl_one {doc : List Int} {e : Ed} {es : List Ed} {p : Nat} (h : Valid doc.length p (e :: es)) : spl (spl doc 0 es) 0 [e] = spl doc 0 (e :: es) ∧ Valid (spl doc 0 es).length 0 [e] := by
  obtain ⟨h1, h2, h3⟩ := h
  have e1 := spl_take h3 h2 0 (Nat.zero_le _)
  simp only [List.drop_zero, Nat.sub_zero] at e1
  have hl : (doc.take (e.1 + e.2.1)).length = e.1 + e.2.1 := by simp; omega
  constructor
  · simp only [spl, List.drop_zero, Nat.sub_zero]
    rw [e1]
    congr 1
    · rw [List.take_append_of_le_length (by omega), List.take_take]
      congr 1; omega
    · congr 1
      rw [List.drop_append_of_le_length (by omega), List.drop_eq_nil_of_le (by omega)]
      rfl
  · refine ⟨Nat.zero_le _, ?_, trivial⟩
    rw [e1, List.length_append]
    omega

/-- The edits that undo. -/
def bck (doc : List Int) : Nat → Nat → List Ed → List Ed
  | _, _, [] => []
  | q, p, e :: es => (q + (e.1 - p), e.2.2.length, (doc.drop e.1).take e.2.1) :: bck doc (q + (e.1 - p) + e.2.2.length) (e.1 + e.2.1) es

theorem bck_undo {doc out : List Int} : ∀ {es : List Ed} {p q : Nat}, Valid doc.length p es → p ≤ doc.length → q ≤ out.length → out.drop q = spl doc p es →
    spl out q (bck doc q p es) = doc.drop p ∧ Valid out.length q (bck doc q p es)
  | [], p, q, _, _, _, ho => ⟨ho, trivial⟩
  | e :: es, p, q, h, hp, hq, ho => by
    obtain ⟨h1, h2, h3⟩ := h
    simp only [spl] at ho
    have hl1 : ((doc.drop p).take (e.1 - p)).length = e.1 - p := by simp; omega
    have hlen := congrArg List.length ho
    simp only [List.length_append, List.length_drop, hl1] at hlen
    have ho2 : out.drop (q + (e.1 - p) + e.2.2.length) = spl doc (e.1 + e.2.1) es := by
      rw [← List.drop_drop, ← List.drop_drop, ho, List.drop_left' hl1, List.drop_left' rfl]
    obtain ⟨r1, r2⟩ := bck_undo h3 h2 (by omega) ho2
    constructor
    · simp only [bck, spl]
      rw [r1, ho, show q + (e.1 - p) - q = e.1 - p by omega, List.take_append_of_le_length (by omega), List.take_of_length_le (by omega)]
      have e3 : doc.drop (e.1 + e.2.1) = (doc.drop e.1).drop e.2.1 := by rw [List.drop_drop]
      rw [e3, List.take_append_drop]
      have e4 : doc.drop e.1 = (doc.drop p).drop (e.1 - p) := by rw [List.drop_drop]; congr 1; omega
      rw [e4, List.take_append_drop]
    · exact ⟨by show q ≤ q + (e.1 - p); omega, by show q + (e.1 - p) + e.2.2.length ≤ out.length; omega, r2⟩

theorem bck_length (doc : List Int) : ∀ (es : List Ed) (q p : Nat), (bck doc q p es).length = es.length
  | [], _, _ => rfl
  | _ :: es, _, _ => by simp [bck, bck_length doc es]

theorem bck_tl (doc : List Int) : ∀ {es : List Ed} {q p : Nat}, Valid doc.length p es → p ≤ doc.length → tl (bck doc q p es) ≤ doc.length - p
  | [], _, _, _, _ => by simp [bck, tl]
  | e :: es, q, p, h, hp => by
    obtain ⟨h1, h2, h3⟩ := h
    have := bck_tl doc (q := q + (e.1 - p) + e.2.2.length) h3 h2
    simp only [bck, tl, List.length_take, List.length_drop]
    omega

/-- The byte walk, one byte further. -/
theorem spl_byte {doc : List Int} {es : List Ed} {p : Nat} (hp : p < doc.length) (hv : Valid doc.length p es) (hn : ∀ e es', es = e :: es' → p ≠ e.1) :
    spl doc p es = doc.getD p 0 :: spl doc (p + 1) es ∧ Valid doc.length (p + 1) es := by
  have hd : doc.drop p = doc.getD p 0 :: doc.drop (p + 1) := by
    rw [List.drop_eq_getElem_cons hp]; simp [List.getD, hp]
  cases es with
  | nil => exact ⟨hd, trivial⟩
  | cons e es =>
    have hne := hn e es rfl
    obtain ⟨h1, h2, h3⟩ := hv
    refine ⟨?_, by omega, h2, h3⟩
    simp only [spl]
    rw [hd, show e.1 - p = (e.1 - (p + 1)) + 1 by omega, List.take_succ_cons]
    rfl
end Go.Proofs.Qxb6000822aMods

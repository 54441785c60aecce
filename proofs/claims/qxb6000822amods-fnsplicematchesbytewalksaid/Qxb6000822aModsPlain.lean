/-
  SEAT b6000822aM: splice as a plain function of lists. No Go in sight.
-/
import Derived.Test.Qxb6000822aModsMem
namespace Go.Proofs.Qxb6000822aMods

/-- The edits stand in order from place p on, each inside the first d places, none over the one before. -/
def Valid (d : Nat) : Nat → List Ed → Prop
  | _, [] => True
  | p, e :: es => p ≤ e.1 ∧ e.1 + e.2.1 ≤ d ∧ Valid d (e.1 + e.2.1) es

/-- doc from place p on, each edit's text in the place of what it is for. -/
def spl (doc : List Int) : Nat → List Ed → List Int
  | p, [] => doc.drop p
  | p, e :: es => (doc.drop p).take (e.1 - p) ++ (e.2.2 ++ spl doc (e.1 + e.2.1) es)

/-- By how much the edits lengthen what they are made in. -/
def siz : List Ed → Int
  | [] => 0
  | e :: es => (e.2.2.length : Int) - e.2.1 + siz es

/-- The texts' lengths together. -/
def tl : List Ed → Nat
  | [] => 0
  | e :: es => e.2.2.length + tl es

theorem drop_cons (es : List Ed) (k : Nat) (hk : k < es.length) : es.drop k = es.getD k (0, 0, []) :: es.drop (k + 1) := by
  rw [List.drop_eq_getElem_cons hk]
  simp [List.getD, hk]

theorem siz_drop (es : List Ed) (k : Nat) (hk : k < es.length) : siz (es.drop k) = ((es.getD k (0, 0, [])).2.2.length : Int) - (es.getD k (0, 0, [])).2.1 + siz (es.drop (k + 1)) := by
  rw [drop_cons es k hk]; rfl
theorem tl_drop (es : List Ed) (k : Nat) (hk : k < es.length) : tl (es.drop k) = (es.getD k (0, 0, [])).2.2.length + tl (es.drop (k + 1)) := by
  rw [drop_cons es k hk]; rfl

theorem valid_le {d : Nat} : ∀ {es : List Ed} {p : Nat}, Valid d p es → p ≤ d → -((d : Int) - p) ≤ siz es ∧ siz es ≤ tl es
  | [], p, _, hp => by simp [siz, tl]; omega
  | e :: es, p, h, hp => by
    obtain ⟨h1, h2, h3⟩ := h
    have := valid_le h3 h2
    simp only [siz, tl]
    omega

theorem spl_length {doc : List Int} : ∀ {es : List Ed} {p : Nat}, Valid doc.length p es → p ≤ doc.length → ((spl doc p es).length : Int) = (doc.length : Int) - p + siz es
  | [], p, _, hp => by simp [spl, siz]; omega
  | e :: es, p, h, hp => by
    obtain ⟨h1, h2, h3⟩ := h
    have := spl_length h3 h2
    simp only [spl, siz, List.length_append, List.length_take, List.length_drop]
    omega

theorem tl_drop_le (es : List Ed) : ∀ k, tl (es.drop k) ≤ tl es := by
  induction es with
  | nil => intro k; simp [tl]
  | cons e es ih =>
    intro k
    cases k with
    | zero => simp
    | succ k => simp only [List.drop_succ_cons, tl]; have := ih k; omega

theorem tl_at_le (es : List Ed) (k : Nat) (hk : k < es.length) : (es.getD k (0, 0, [])).2.2.length ≤ tl es := by
  have h1 := tl_drop es k hk
  have h2 := tl_drop_le es k
  omega

theorem valid_drop {d p : Nat} {es : List Ed} {k : Nat} (hk : k < es.length) (h : Valid d p (es.drop k)) :
    p ≤ (es.getD k (0, 0, [])).1 ∧ (es.getD k (0, 0, [])).1 + (es.getD k (0, 0, [])).2.1 ≤ d ∧ Valid d ((es.getD k (0, 0, [])).1 + (es.getD k (0, 0, [])).2.1) (es.drop (k + 1)) := by
  rw [drop_cons es k hk] at h; exact h

theorem spl_drop (doc : List Int) (p : Nat) (es : List Ed) (k : Nat) (hk : k < es.length) :
    spl doc p (es.drop k) = (doc.drop p).take ((es.getD k (0, 0, [])).1 - p) ++ ((es.getD k (0, 0, [])).2.2 ++ spl doc ((es.getD k (0, 0, [])).1 + (es.getD k (0, 0, [])).2.1) (es.drop (k + 1))) := by
  rw [drop_cons es k hk]; rfl
theorem valid_any_drop {d : Nat} : ∀ {es : List Ed} {p : Nat} (k : Nat), Valid d p es → p ≤ d → ∃ q, q ≤ d ∧ Valid d q (es.drop k)
  | es, p, 0, h, hp => ⟨p, hp, by simpa using h⟩
  | [], p, k + 1, _, hp => ⟨p, hp, by simp [Valid]⟩
  | e :: es, p, k + 1, h, _ => by
    obtain ⟨_, h2, h3⟩ := h
    simpa using valid_any_drop k h3 h2

theorem siz_drop_bd {d p : Nat} {es : List Ed} (h : Valid d p es) (hp : p ≤ d) (k : Nat) : -(d : Int) ≤ siz (es.drop k) ∧ siz (es.drop k) ≤ tl es := by
  obtain ⟨q, hq, hv⟩ := valid_any_drop k h hp
  have h1 := valid_le hv hq
  have h2 := tl_drop_le es k
  omega

theorem valid_at {d p : Nat} {es : List Ed} (h : Valid d p es) (hp : p ≤ d) (k : Nat) (hk : k < es.length) : (es.getD k (0, 0, [])).1 + (es.getD k (0, 0, [])).2.1 ≤ d := by
  obtain ⟨q, _, hv⟩ := valid_any_drop k h hp
  exact (valid_drop hk hv).2.1
end Go.Proofs.Qxb6000822aMods

/-
  SEAT b6001239aM: one edit's distance, as plain facts on lists of runes.
-/
import Derived.Test.Qxb6001239aModsDist
import Derived.Test.Qxb6001239aModsUtf
namespace Go.Proofs.Qxb6001239aMods

/-- c put in at place p. -/
def insAt (xs : List Int) (p : Nat) (c : Int) : List Int := xs.take p ++ c :: xs.drop p
/-- s and s+1 swapped. -/
def swapAt (xs : List Int) (s : Nat) : List Int := (xs.set s (xs.getD (s + 1) 0)).set (s + 1) (xs.getD s 0)

theorem insAt_length (xs : List Int) (p : Nat) (c : Int) (hp : p ≤ xs.length) : (insAt xs p c).length = xs.length + 1 := by
  simp [insAt]; omega
theorem insAt_lo (xs : List Int) (p : Nat) (c : Int) (hp : p ≤ xs.length) (k : Nat) (hk : k < p) : (insAt xs p c).getD k 0 = xs.getD k 0 := by
  simp only [insAt, List.getD]
  rw [List.getElem?_append_left (by simp; omega), List.getElem?_take, if_pos hk]
theorem insAt_hi (xs : List Int) (p : Nat) (c : Int) (hp : p ≤ xs.length) (k : Nat) (hk : p ≤ k) : (insAt xs p c).getD (k + 1) 0 = xs.getD k 0 := by
  simp only [insAt, List.getD]
  rw [List.getElem?_append_right (by simp; omega), List.length_take, Nat.min_eq_left hp, show k + 1 - p = (k - p) + 1 by omega, List.getElem?_cons_succ, List.getElem?_drop, show p + (k - p) = k by omega]

theorem dist_ins (xs : List Int) (p : Nat) (c : Int) (hp : p ≤ xs.length) : dist xs (insAt xs p c) = 1 := by
  unfold dist
  rw [insAt_length xs p c hp]
  exact D_insert xs.length p hp (fun k hk => (insAt_lo xs p c hp k hk).symm) (fun k h1 _ => (insAt_hi xs p c hp k h1).symm)
theorem dist_del (xs : List Int) (p : Nat) (c : Int) (hp : p ≤ xs.length) : dist (insAt xs p c) xs = 1 := by
  unfold dist
  rw [insAt_length xs p c hp]
  exact D_delete xs.length p hp (fun k hk => insAt_lo xs p c hp k hk) (fun k h1 _ => insAt_hi xs p c hp k h1)

theorem getD_set_ne (xs : List Int) (q k : Nat) (c : Int) (h : k ≠ q) : (xs.set q c).getD k 0 = xs.getD k 0 := by
  simp only [List.getD]; rw [List.getElem?_set_ne (fun e => h e.symm)]
theorem getD_set_eq (xs : List Int) (q : Nat) (c : Int) (h : q < xs.length) : (xs.set q c).getD q 0 = c := by
  simp [List.getD, h]

theorem dist_set (xs : List Int) (q : Nat) (c : Int) (hq : q < xs.length) : dist xs (xs.set q c) = if xs.getD q 0 = c then 0 else 1 := by
  unfold dist
  rw [List.length_set, D_subst xs.length q hq (fun k _ hk => (getD_set_ne xs q k c hk).symm), getD_set_eq xs q c hq]

theorem swapAt_length (xs : List Int) (s : Nat) : (swapAt xs s).length = xs.length := by simp [swapAt]
theorem dist_swap (xs : List Int) (s : Nat) (hs : s + 1 < xs.length) : dist xs (swapAt xs s) = if xs.getD s 0 = xs.getD (s + 1) 0 then 0 else 1 := by
  unfold dist
  rw [swapAt_length]
  refine D_swapped xs.length s hs ?_ ?_ ?_
  · show xs.getD (s + 1) 0 = (swapAt xs s).getD s 0
    unfold swapAt
    rw [getD_set_ne _ _ _ _ (by omega), getD_set_eq _ _ _ (by omega)]
  · show xs.getD s 0 = (swapAt xs s).getD (s + 1) 0
    unfold swapAt
    rw [getD_set_eq _ _ _ (by simp; omega)]
  · intro k _ h1 h2
    show xs.getD k 0 = (swapAt xs s).getD k 0
    unfold swapAt
    rw [getD_set_ne _ _ _ _ h2, getD_set_ne _ _ _ _ h1]

theorem insAt_valid {xs : List Int} {p : Nat} {c : Int} (hx : ∀ n ∈ xs, Utf8.valid n = true) (hc : Utf8.valid c = true) : ∀ n ∈ insAt xs p c, Utf8.valid n = true := by
  intro n hn
  unfold insAt at hn
  rcases List.mem_append.1 hn with h | h
  · exact hx n (List.mem_of_mem_take h)
  · rcases List.mem_cons.1 h with rfl | h
    · exact hc
    · exact hx n (List.mem_of_mem_drop h)
theorem set_valid {xs : List Int} {q : Nat} {c : Int} (hx : ∀ n ∈ xs, Utf8.valid n = true) (hc : Utf8.valid c = true) : ∀ n ∈ xs.set q c, Utf8.valid n = true := by
  intro n hn
  rcases List.mem_or_eq_of_mem_set hn with h | h
  · exact hx n h
  · rw [h]; exact hc
theorem getD_valid {xs : List Int} (hx : ∀ n ∈ xs, Utf8.valid n = true) (k : Nat) (hk : k < xs.length) : Utf8.valid (xs.getD k 0) = true := by
  simp only [List.getD, List.getElem?_eq_getElem hk, Option.getD_some]
  exact hx _ (List.getElem_mem hk)
theorem swapAt_valid {xs : List Int} {s : Nat} (hx : ∀ n ∈ xs, Utf8.valid n = true) (hs : s + 1 < xs.length) : ∀ n ∈ swapAt xs s, Utf8.valid n = true :=
  set_valid (set_valid hx (getD_valid hx _ hs)) (getD_valid hx _ (by omega))

/-- The remainder, brought to be at least nought. -/
theorem tmod_range (k m : Int) (hm : 0 < m) : -m < k.tmod m ∧ k.tmod m < m := by
  have h1 := Int.lt_tmod_of_pos k hm
  have h2 := Int.tmod_lt_of_pos k hm
  omega
end Go.Proofs.Qxb6001239aMods

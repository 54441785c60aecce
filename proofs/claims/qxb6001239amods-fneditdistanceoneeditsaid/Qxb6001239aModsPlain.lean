/-
  SEAT b6001239aM: the edit distance (insertions, deletions, substitutions, swaps of neighbours) as a plain function, row by row. No Go in sight.
-/
namespace Go.Proofs.Qxb6001239aMods

def cost (a b : Int) : Nat := if a = b then 0 else 1

/-- Row i+1 out of row i ('p') and row i-1 ('p2'). -/
def nextRow (X Y : Nat → Int) (i : Nat) (p2 p : Nat → Nat) : Nat → Nat
  | 0 => i + 1
  | j + 1 =>
    if 1 ≤ i ∧ 1 ≤ j ∧ X i = Y (j - 1) ∧ X (i - 1) = Y j then
      min (min (min (p (j + 1) + 1) (nextRow X Y i p2 p j + 1)) (p j + cost (X i) (Y j))) (p2 (j - 1) + 1)
    else min (min (p (j + 1) + 1) (nextRow X Y i p2 p j + 1)) (p j + cost (X i) (Y j))

/-- Rows i-1 and i. -/
def rowsOf (X Y : Nat → Int) : Nat → (Nat → Nat) × (Nat → Nat)
  | 0 => (fun _ => 0, fun j => j)
  | i + 1 => ((rowsOf X Y i).2, nextRow X Y i (rowsOf X Y i).1 (rowsOf X Y i).2)

def D (X Y : Nat → Int) (i j : Nat) : Nat := (rowsOf X Y i).2 j

variable {X Y : Nat → Int}

theorem D_zero (j : Nat) : D X Y 0 j = j := rfl
theorem D_left (i : Nat) : D X Y (i + 1) 0 = i + 1 := rfl
theorem D_left' (i : Nat) : D X Y i 0 = i := by cases i <;> rfl
theorem rows_prev (i : Nat) : (rowsOf X Y (i + 1)).1 = fun j => D X Y i j := rfl

/-- The step without a swap. -/
def base3 (X Y : Nat → Int) (i j : Nat) : Nat := min (min (D X Y i (j + 1) + 1) (D X Y (i + 1) j + 1)) (D X Y i j + cost (X i) (Y j))

theorem D_swap (i j : Nat) (h : X (i + 1) = Y j ∧ X i = Y (j + 1)) : D X Y (i + 2) (j + 2) = min (base3 X Y (i + 1) (j + 1)) (D X Y i j + 1) := by
  show nextRow X Y (i + 1) _ _ (j + 2) = _
  rw [nextRow, if_pos ⟨by omega, by omega, h.1, h.2⟩]
  rfl

theorem D_plain (i j : Nat) (h : ¬ (1 ≤ i ∧ 1 ≤ j ∧ X i = Y (j - 1) ∧ X (i - 1) = Y j)) : D X Y (i + 1) (j + 1) = base3 X Y i j := by
  show nextRow X Y i _ _ (j + 1) = _
  rw [nextRow, if_neg h]
  rfl

/-- A step with or without a swap. -/
theorem D_cases (i j : Nat) : D X Y (i + 1) (j + 1) = base3 X Y i j ∨ ∃ i' j', i = i' + 1 ∧ j = j' + 1 ∧ X (i' + 1) = Y j' ∧ X i' = Y (j' + 1) ∧ D X Y (i + 1) (j + 1) = min (base3 X Y i j) (D X Y i' j' + 1) := by
  by_cases h : 1 ≤ i ∧ 1 ≤ j ∧ X i = Y (j - 1) ∧ X (i - 1) = Y j
  · obtain ⟨i', rfl⟩ : ∃ k, i = k + 1 := ⟨i - 1, by omega⟩
    obtain ⟨j', rfl⟩ : ∃ k, j = k + 1 := ⟨j - 1, by omega⟩
    simp only [Nat.add_sub_cancel] at h
    exact .inr ⟨i', j', rfl, rfl, h.2.2.1, h.2.2.2, D_swap i' j' ⟨h.2.2.1, h.2.2.2⟩⟩
  · exact .inl (D_plain i j h)

theorem D_le_base (i j : Nat) : D X Y (i + 1) (j + 1) ≤ base3 X Y i j := by
  rcases D_cases (X := X) (Y := Y) i j with h | ⟨_, _, _, _, _, _, h⟩ <;> omega

theorem D_same (i j : Nat) : D X Y (i + 1) (j + 1) ≤ D X Y i j + cost (X i) (Y j) := by
  have := D_le_base (X := X) (Y := Y) i j
  unfold base3 at this
  omega

theorem D_ins (i j : Nat) : D X Y i (j + 1) ≤ D X Y i j + 1 := by
  cases i with
  | zero => simp [D_zero]
  | succ i =>
    have := D_le_base (X := X) (Y := Y) i j
    unfold base3 at this
    omega

theorem D_del (i j : Nat) : D X Y (i + 1) j ≤ D X Y i j + 1 := by
  cases j with
  | zero => simp [D_left, D_left']
  | succ j =>
    have := D_le_base (X := X) (Y := Y) i j
    unfold base3 at this
    omega

theorem D_swap_le (i j : Nat) (h : X (i + 1) = Y j ∧ X i = Y (j + 1)) : D X Y (i + 2) (j + 2) ≤ D X Y i j + 1 := by
  rw [D_swap i j h]; omega

theorem cost_le (a b : Int) : cost a b ≤ 1 := by unfold cost; split <;> omega

/-- What holds of rows i and i-1 for every i. -/
theorem two_rows {P : Nat → Prop} (h0 : P 0) (h1 : P 0 → P 1) (hs : ∀ i, P i → P (i + 1) → P (i + 2)) : ∀ i, P i := by
  have : ∀ i, P i ∧ P (i + 1) := by
    intro i
    induction i with
    | zero => exact ⟨h0, h1 h0⟩
    | succ i ih => exact ⟨ih.2, hs i ih.1 ih.2⟩
  exact fun i => (this i).1

theorem D_lower : ∀ i j, i ≤ D X Y i j + j ∧ j ≤ D X Y i j + i := by
  have step : ∀ i, (∀ j, i ≤ D X Y i j + j ∧ j ≤ D X Y i j + i) → (∀ i', i = i' + 1 → ∀ j, i' ≤ D X Y i' j + j ∧ j ≤ D X Y i' j + i') → ∀ j, i + 1 ≤ D X Y (i + 1) j + j ∧ j ≤ D X Y (i + 1) j + (i + 1) := by
    intro i hi hp j
    induction j with
    | zero => rw [D_left]; omega
    | succ j ih =>
      have a1 := hi (j + 1)
      have a2 := hi j
      have b : i ≤ base3 X Y i j + j ∧ j ≤ base3 X Y i j + i := by unfold base3; omega
      rcases D_cases (X := X) (Y := Y) i j with h | ⟨i', j', e1, e2, _, _, h⟩
      · rw [h]; omega
      · have a3 := hp i' e1 j'
        rw [h]; omega
  intro i
  refine two_rows (P := fun i => ∀ j, i ≤ D X Y i j + j ∧ j ≤ D X Y i j + i) ?_ ?_ ?_ i
  · intro j; rw [D_zero]; omega
  · intro h; exact step 0 h (fun i' e => by omega)
  · intro i h1 h2
    exact step (i + 1) h2 (fun i' e => by obtain rfl : i = i' := by omega
                                          exact h1)

theorem D_upper : ∀ i j, D X Y i j ≤ max i j
  | 0, j => by rw [D_zero]; omega
  | i + 1, 0 => by rw [D_left]; omega
  | i + 1, j + 1 => by
    have h1 := D_upper i j
    have h2 := D_same (X := X) (Y := Y) i j
    have h3 := cost_le (X i) (Y j)
    omega

/-- Equal so far: no distance. -/
theorem D_eq_zero : ∀ i, (∀ k, k < i → X k = Y k) → D X Y i i = 0
  | 0, _ => D_zero 0
  | i + 1, h => by
    have h1 := D_eq_zero i (fun k hk => h k (by omega))
    have h2 := D_same (X := X) (Y := Y) i i
    have h3 : cost (X i) (Y i) = 0 := by unfold cost; rw [if_pos (h i (by omega))]
    omega

theorem D_zero_eq : ∀ i, D X Y i i = 0 → ∀ k, k < i → X k = Y k
  | 0, _, _, hk => by omega
  | i + 1, h, k, hk => by
    have hb : D X Y i i + cost (X i) (Y i) = 0 := by
      rcases D_cases (X := X) (Y := Y) i i with e | ⟨_, _, _, _, _, _, e⟩
      · rw [e] at h; unfold base3 at h; omega
      · rw [e] at h; unfold base3 at h; omega
    have h1 : D X Y i i = 0 := by omega
    have h2 : X i = Y i := by
      have h3 : cost (X i) (Y i) = 0 := by omega
      unfold cost at h3
      split at h3
      · assumption
      · omega
    by_cases hki : k = i
    · rw [hki]; exact h2
    · exact D_zero_eq i h1 k (by omega)

theorem D_zero_iff (i j : Nat) : D X Y i j = 0 ↔ i = j ∧ ∀ k, k < i → X k = Y k := by
  constructor
  · intro h
    have hl := D_lower (X := X) (Y := Y) i j
    obtain rfl : i = j := by omega
    exact ⟨rfl, D_zero_eq i h⟩
  · rintro ⟨rfl, h⟩
    exact D_eq_zero i h

/-- From a place on the two go on alike. -/
theorem D_run (i j : Nat) : ∀ n, (∀ k, k < n → X (i + k) = Y (j + k)) → D X Y (i + n) (j + n) ≤ D X Y i j
  | 0, _ => by simp
  | n + 1, h => by
    have h1 := D_run i j n (fun k hk => h k (by omega))
    have h2 := D_same (X := X) (Y := Y) (i + n) (j + n)
    have h3 : cost (X (i + n)) (Y (j + n)) = 0 := by unfold cost; rw [if_pos (h n (by omega))]
    rw [← Nat.add_assoc, ← Nat.add_assoc]
    omega

/-- One more on the right. -/
theorem D_insert (n p : Nat) (hp : p ≤ n) (h1 : ∀ k, k < p → X k = Y k) (h2 : ∀ k, p ≤ k → k < n → X k = Y (k + 1)) : D X Y n (n + 1) = 1 := by
  have a := D_eq_zero p h1
  have b := D_ins (X := X) (Y := Y) p p
  have c := D_run (X := X) (Y := Y) p (p + 1) (n - p) (fun k hk => by
    have := h2 (p + k) (by omega) (by omega)
    rw [this]; congr 1; omega)
  rw [show p + (n - p) = n by omega, show p + 1 + (n - p) = n + 1 by omega] at c
  have l := D_lower (X := X) (Y := Y) n (n + 1)
  omega

/-- One more on the left. -/
theorem D_delete (n p : Nat) (hp : p ≤ n) (h1 : ∀ k, k < p → X k = Y k) (h2 : ∀ k, p ≤ k → k < n → X (k + 1) = Y k) : D X Y (n + 1) n = 1 := by
  have a := D_eq_zero p h1
  have b := D_del (X := X) (Y := Y) p p
  have c := D_run (X := X) (Y := Y) (p + 1) p (n - p) (fun k hk => by
    have := h2 (p + k) (by omega) (by omega)
    rw [← this]; congr 1; omega)
  rw [show p + (n - p) = n by omega, show p + 1 + (n - p) = n + 1 by omega] at c
  have l := D_lower (X := X) (Y := Y) (n + 1) n
  omega

/-- One put in another's place. -/
theorem D_subst (n q : Nat) (hq : q < n) (h1 : ∀ k, k < n → k ≠ q → X k = Y k) : D X Y n n = if X q = Y q then 0 else 1 := by
  by_cases he : X q = Y q
  · rw [if_pos he]
    exact D_eq_zero n (fun k hk => by by_cases hkq : k = q
                                      · rw [hkq]; exact he
                                      · exact h1 k hk hkq)
  · rw [if_neg he]
    have a := D_eq_zero q (fun k hk => h1 k (by omega) (by omega))
    have b := D_same (X := X) (Y := Y) q q
    have b' := cost_le (X q) (Y q)
    have c := D_run (X := X) (Y := Y) (q + 1) (q + 1) (n - (q + 1)) (fun k hk => h1 _ (by omega) (by omega))
    rw [show q + 1 + (n - (q + 1)) = n by omega] at c
    have z : D X Y n n ≠ 0 := fun hz => he (D_zero_eq n hz q hq)
    omega

/-- Two neighbours swapped. -/
theorem D_swapped (n s : Nat) (hs : s + 1 < n) (h0 : X (s + 1) = Y s) (h0' : X s = Y (s + 1)) (h1 : ∀ k, k < n → k ≠ s → k ≠ s + 1 → X k = Y k) : D X Y n n = if X s = X (s + 1) then 0 else 1 := by
  by_cases he : X s = X (s + 1)
  · rw [if_pos he]
    refine D_eq_zero n (fun k hk => ?_)
    by_cases h2 : k = s
    · rw [h2, he]; exact h0
    · by_cases h3 : k = s + 1
      · rw [h3, ← he]; exact h0'
      · exact h1 k hk h2 h3
  · rw [if_neg he]
    have a := D_eq_zero s (fun k hk => h1 k (by omega) (by omega) (by omega))
    have b := D_swap_le (X := X) (Y := Y) s s ⟨h0, h0'⟩
    have c := D_run (X := X) (Y := Y) (s + 2) (s + 2) (n - (s + 2)) (fun k hk => h1 _ (by omega) (by omega) (by omega))
    rw [show s + 2 + (n - (s + 2)) = n by omega] at c
    have z : D X Y n n ≠ 0 := fun hz => he (by rw [D_zero_eq n hz s (by omega)]; exact h0.symm)
    omega
end Go.Proofs.Qxb6001239aMods

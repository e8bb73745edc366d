/-
  Seat b6600407a: plain mathematics, no Go in sight: the marked places below k in increasing order, and ranks among them.
-/
namespace Go.Proofs.Qxb6600407a.Marks

/-- The marked places below k, in increasing order. -/
def ids (f : Nat → Bool) : Nat → List Nat
  | 0 => []
  | k + 1 => if f k = true then ids f k ++ [k] else ids f k

/-- How many places below k are marked. -/
def rk (f : Nat → Bool) (k : Nat) : Nat := (ids f k).length

theorem ids_zero (f : Nat → Bool) : ids f 0 = [] := rfl
theorem ids_hit (f : Nat → Bool) (k : Nat) (h : f k = true) : ids f (k + 1) = ids f k ++ [k] := by simp [ids, h]
theorem ids_miss (f : Nat → Bool) (k : Nat) (h : f k = false) : ids f (k + 1) = ids f k := by simp [ids, h]
theorem rk_zero (f : Nat → Bool) : rk f 0 = 0 := rfl
theorem rk_hit (f : Nat → Bool) (k : Nat) (h : f k = true) : rk f (k + 1) = rk f k + 1 := by simp [rk, ids_hit f k h]
theorem rk_miss (f : Nat → Bool) (k : Nat) (h : f k = false) : rk f (k + 1) = rk f k := by simp [rk, ids_miss f k h]
theorem rk_le (f : Nat → Bool) (k : Nat) : rk f k ≤ k := by
  induction k with
  | zero => simp [rk_zero]
  | succ k ih =>
    cases h : f k with
    | true => rw [rk_hit f k h]; omega
    | false => rw [rk_miss f k h]; omega
theorem rk_step (f : Nat → Bool) (k : Nat) : rk f k ≤ rk f (k + 1) := by
  cases h : f k with
  | true => rw [rk_hit f k h]; omega
  | false => rw [rk_miss f k h]; omega
theorem rk_mono (f : Nat → Bool) {i k : Nat} (h : i ≤ k) : rk f i ≤ rk f k := by
  induction k with
  | zero => rw [Nat.le_zero.1 h]; exact Nat.le_refl _
  | succ k ih =>
    by_cases e : i = k + 1
    · subst e; exact Nat.le_refl _
    · exact Nat.le_trans (ih (by omega)) (rk_step f k)
theorem rk_lt (f : Nat → Bool) {i k : Nat} (h : i < k) (hf : f i = true) : rk f i < rk f k := by
  have := rk_mono f (show i + 1 ≤ k from h)
  rw [rk_hit f i hf] at this
  omega

/-- The marked place i stands at its own rank. -/
theorem ids_at (f : Nat → Bool) {i k : Nat} (h : i < k) (hf : f i = true) : (ids f k)[rk f i]? = some i := by
  induction k with
  | zero => omega
  | succ k ih =>
    by_cases e : i = k
    · subst e
      rw [ids_hit f i hf]
      simp [rk]
    · have hlt := rk_lt f (show i < k by omega) hf
      have h1 := ih (by omega)
      cases hk : f k with
      | true => rw [ids_hit f k hk, List.getElem?_append_left hlt]; exact h1
      | false => rw [ids_miss f k hk]; exact h1

/-- What stands at rank j is marked, lies below k, and has the rank j. -/
theorem ids_get (f : Nat → Bool) {j k x : Nat} (h : (ids f k)[j]? = some x) : x < k ∧ f x = true ∧ rk f x = j := by
  induction k with
  | zero => simp [ids] at h
  | succ k ih =>
    cases hk : f k with
    | true =>
      rw [ids_hit f k hk] at h
      by_cases hj : j < rk f k
      · rw [List.getElem?_append_left hj] at h
        obtain ⟨h1, h2, h3⟩ := ih h
        exact ⟨by omega, h2, h3⟩
      · by_cases e : j = rk f k
        · subst e
          simp [rk] at h
          subst h
          exact ⟨by omega, hk, rfl⟩
        · exfalso
          rw [List.getElem?_eq_none (by simp; unfold rk at hj e; omega)] at h
          cases h
    | false =>
      rw [ids_miss f k hk] at h
      obtain ⟨h1, h2, h3⟩ := ih h
      exact ⟨by omega, h2, h3⟩

theorem ids_some (f : Nat → Bool) {j k : Nat} (h : j < rk f k) : ∃ x, (ids f k)[j]? = some x ∧ x < k ∧ f x = true ∧ rk f x = j := by
  have e : (ids f k)[j]? = some ((ids f k)[j]'h) := List.getElem?_eq_getElem h
  exact ⟨_, e, ids_get f e⟩

/-- The place at rank j, as a number (0 beyond the end). -/
def at' (f : Nat → Bool) (k j : Nat) : Nat := (ids f k)[j]?.getD 0
theorem at_eq (f : Nat → Bool) {k j x : Nat} (h : (ids f k)[j]? = some x) : at' f k j = x := by simp [at', h]
theorem at_spec (f : Nat → Bool) {j k : Nat} (h : j < rk f k) : at' f k j < k ∧ f (at' f k j) = true ∧ rk f (at' f k j) = j := by
  obtain ⟨x, h0, h1, h2, h3⟩ := ids_some f h
  rw [at_eq f h0]; exact ⟨h1, h2, h3⟩
theorem at_rank (f : Nat → Bool) {i k : Nat} (h : i < k) (hf : f i = true) : at' f k (rk f i) = i := at_eq f (ids_at f h hf)
theorem at_only (f : Nat → Bool) {i j k : Nat} (h : i < k) (hf : f i = true) (hr : rk f i = j) : i = at' f k j := by
  subst hr; exact (at_rank f h hf).symm

/-! ### One more mark, at j -/
def more (f : Nat → Bool) (j : Nat) : Nat → Bool := fun i => if i = j then true else f i
theorem more_self (f : Nat → Bool) (j : Nat) : more f j j = true := by simp [more]
theorem more_other (f : Nat → Bool) {i j : Nat} (h : i ≠ j) : more f j i = f i := by simp [more, h]
theorem rk_more_le (f : Nat → Bool) (j : Nat) {i : Nat} (h : i ≤ j) : rk (more f j) i = rk f i := by
  induction i with
  | zero => rfl
  | succ i ih =>
    have e := more_other f (show i ≠ j by omega)
    cases hf : f i with
    | true => rw [rk_hit f i hf, rk_hit _ i (by rw [e]; exact hf), ih (by omega)]
    | false => rw [rk_miss f i hf, rk_miss _ i (by rw [e]; exact hf), ih (by omega)]
theorem rk_more_gt (f : Nat → Bool) (j : Nat) (hj : f j = false) {i : Nat} (h : j < i) : rk (more f j) i = rk f i + 1 := by
  induction i with
  | zero => omega
  | succ i ih =>
    by_cases e : i = j
    · subst e
      rw [rk_hit _ i (more_self f i), rk_miss f i hj, rk_more_le f i (Nat.le_refl _)]
    · have e' := more_other f e
      cases hf : f i with
      | true => rw [rk_hit f i hf, rk_hit _ i (by rw [e']; exact hf), ih (by omega)]
      | false => rw [rk_miss f i hf, rk_miss _ i (by rw [e']; exact hf), ih (by omega)]
/-- Ranks before j's keep their place. -/
theorem at_more_lt (f : Nat → Bool) (j : Nat) {n k : Nat} (hjn : j < n) (hk : k < rk f j) : at' (more f j) n k = at' f n k := by
  have hkn : k < rk f n := Nat.lt_of_lt_of_le hk (rk_mono f (by omega))
  obtain ⟨h1, h2, h3⟩ := at_spec f hkn
  have hxj : at' f n k < j := by
    apply Nat.lt_of_not_le
    intro hge
    have := rk_mono f hge
    omega
  exact (at_only (more f j) (j := k) h1 (by rw [more_other f (by omega)]; exact h2) (by rw [rk_more_le f j (by omega)]; exact h3)).symm
/-- Ranks from j's on move by one. -/
theorem at_more_ge (f : Nat → Bool) (j : Nat) (hj : f j = false) {n k : Nat} (hk : rk f j ≤ k) (hkn : k < rk f n) : at' (more f j) n (k + 1) = at' f n k := by
  obtain ⟨h1, h2, h3⟩ := at_spec f hkn
  have hxj : j < at' f n k := by
    have hne : at' f n k ≠ j := by intro e; rw [e] at h2; rw [hj] at h2; cases h2
    apply Nat.lt_of_le_of_ne _ (Ne.symm hne)
    apply Nat.le_of_not_lt
    intro hlt
    have := rk_lt f hlt h2
    omega
  exact (at_only (more f j) (j := k + 1) h1 (by rw [more_other f (by omega)]; exact h2) (by rw [rk_more_gt f j hj hxj, h3])).symm
theorem at_more_self (f : Nat → Bool) (j : Nat) {n : Nat} (hjn : j < n) : at' (more f j) n (rk f j) = j := by
  have := at_rank (more f j) hjn (more_self f j)
  rwa [rk_more_le f j (Nat.le_refl _)] at this
end Go.Proofs.Qxb6600407a.Marks

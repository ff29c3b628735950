namespace Go.Proofs.Qxb6602222a

/-- the first place from i on, below n, of which p holds; n where there is none -/
def firstF (p : Nat → Bool) : Nat → Nat → Nat
  | 0, i => i
  | f + 1, i => if p i then i else firstF p f (i + 1)
def first (p : Nat → Bool) (n i : Nat) : Nat := firstF p (n - i) i

theorem firstF_spec (p : Nat → Bool) (f i : Nat) : i ≤ firstF p f i ∧ firstF p f i ≤ i + f ∧ (∀ j, i ≤ j → j < firstF p f i → p j = false) ∧ (firstF p f i < i + f → p (firstF p f i) = true) := by
  induction f generalizing i with
  | zero => exact ⟨Nat.le_refl _, Nat.le_refl _, fun j h1 h2 => by simp [firstF] at h2; omega, fun h => by simp [firstF] at h⟩
  | succ f ih =>
    unfold firstF
    by_cases h : p i = true
    · rw [if_pos h]
      exact ⟨Nat.le_refl _, by omega, fun j h1 h2 => by omega, fun _ => h⟩
    · rw [if_neg h]
      obtain ⟨a, b, c, d⟩ := ih (i + 1)
      refine ⟨by omega, by omega, fun j h1 h2 => ?_, fun h2 => d (by omega)⟩
      by_cases e : j = i
      · subst e; simpa using h
      · exact c j (by omega) h2

theorem first_ge (p : Nat → Bool) (n i : Nat) : i ≤ first p n i := (firstF_spec p (n - i) i).1
theorem first_le {p : Nat → Bool} {n i : Nat} (h : i ≤ n) : first p n i ≤ n := by
  have := (firstF_spec p (n - i) i).2.1; unfold first; omega
theorem first_before {p : Nat → Bool} {n i j : Nat} (h1 : i ≤ j) (h2 : j < first p n i) : p j = false := (firstF_spec p (n - i) i).2.2.1 j h1 h2
theorem first_at {p : Nat → Bool} {n i : Nat} (h : first p n i < n) : p (first p n i) = true := by
  have := first_ge p n i
  exact (firstF_spec p (n - i) i).2.2.2 (by unfold first at *; omega)
theorem first_uniq {p : Nat → Bool} {n i k : Nat} (h1 : i ≤ k) (h2 : k ≤ n) (hb : ∀ j, i ≤ j → j < k → p j = false) (ha : k < n → p k = true) : first p n i = k := by
  have a := first_ge p n i
  have b := first_le (p := p) (i := i) (n := n) (by omega)
  rcases Nat.lt_trichotomy (first p n i) k with h | h | h
  · have := first_at (p := p) (n := n) (i := i) (by omega)
    rw [hb _ a h] at this; cases this
  · exact h
  · have := first_before (p := p) (n := n) (i := i) h1 h
    rw [ha (by omega)] at this; cases this
theorem first_step {p : Nat → Bool} {n i : Nat} (h : i < n) (hp : p i = false) : first p n i = first p n (i + 1) := by
  refine first_uniq ?_ (first_le (by omega)) ?_ first_at
  · have := first_ge p n (i + 1); omega
  · intro j h1 h2
    by_cases e : j = i
    · subst e; exact hp
    · exact first_before (by omega) h2
theorem first_here {p : Nat → Bool} {n i : Nat} (h : i ≤ n) (hp : i < n → p i = true) : first p n i = i :=
  first_uniq (Nat.le_refl _) h (fun j a b => by omega) hp


/-- the first CR · the first CR or LF -/
def c13 (f : Nat → Nat) (n i : Nat) : Nat := first (fun j => f j == 13) n i
def cE (f : Nat → Nat) (n i : Nat) : Nat := first (fun j => f j == 10 || f j == 13) n i

theorem cE_hit {f : Nat → Nat} {n i k : Nat} (h : i ≤ n) (hk : first (fun j => f j == 10) (c13 f n i) i = k) (hlt : k < c13 f n i) : cE f n i = k := by
  have h1 := first_ge (fun j => f j == 10) (c13 f n i) i
  have h2 := first_le (p := fun j => f j == 13) h
  have h3 := first_at (p := fun j => f j == 10) (n := c13 f n i) (i := i) (by rw [hk]; exact hlt)
  rw [hk] at h1 h3
  refine first_uniq h1 (by unfold c13 at hlt; omega) (fun j a b => ?_) (fun _ => by rw [h3]; rfl)
  have e1 := first_before (p := fun j => f j == 10) (n := c13 f n i) (i := i) (j := j) a (by rw [hk]; exact b)
  have e2 := first_before (p := fun j => f j == 13) (n := n) (i := i) (j := j) a (by unfold c13 at hlt; omega)
  rw [e1, e2]; rfl
theorem cE_miss {f : Nat → Nat} {n i : Nat} (h : i ≤ n) (hlt : ¬ first (fun j => f j == 10) (c13 f n i) i < c13 f n i) : cE f n i = c13 f n i := by
  have h1 := first_ge (fun j => f j == 13) n i
  have h2 := first_le (p := fun j => f j == 13) h
  refine first_uniq h1 h2 (fun j a b => ?_) (fun hh => ?_)
  · have e1 := first_before (p := fun j => f j == 10) (n := c13 f n i) (i := i) (j := j) a (by omega)
    have e2 := first_before (p := fun j => f j == 13) (n := n) (i := i) (j := j) a b
    rw [e1, e2]; rfl
  · have e2 := first_at (p := fun j => f j == 13) hh
    have e3 : (f (c13 f n i) == 13) = true := e2
    rw [e3]; simp

end Go.Proofs.Qxb6602222a

namespace Go.Proofs.Qxb6601608a

/-- the byte at place i; 256 behind the end -/
def bt (s : ByteArray) (i : Nat) : Nat := if h : i < s.size then (s[i]'h).toNat else 256

theorem bt_in {s : ByteArray} {i : Nat} (h : i < s.size) : bt s i = (s[i]'h).toNat := by
  unfold bt; rw [dif_pos h]
theorem bt_out {s : ByteArray} {i : Nat} (h : s.size ≤ i) : bt s i = 256 := by
  unfold bt; rw [dif_neg (by omega)]
theorem bt_lt {s : ByteArray} {i : Nat} (h : i < s.size) : bt s i < 256 := by
  rw [bt_in h]; exact (s[i]'h).toNat_lt
theorem bt_le (s : ByteArray) (i : Nat) : bt s i ≤ 256 := by
  by_cases h : i < s.size
  · have := bt_lt h; omega
  · rw [bt_out (by omega)]; omega

theorem getElem_extract {s : ByteArray} {a b i : Nat} (h : i < (s.extract a b).size) (h2 : a + i < s.size) : (s.extract a b)[i]'h = s[a + i]'h2 := by
  simp [ByteArray.getElem_extract]

theorem size_extract (s : ByteArray) (a b : Nat) (hb : b ≤ s.size) : (s.extract a b).size = b - a := by
  simp [ByteArray.size_extract]; omega

theorem bt_extract (s : ByteArray) (a b i : Nat) (hb : b ≤ s.size) (h : i < b - a) : bt (s.extract a b) i = bt s (a + i) := by
  have h1 : i < (s.extract a b).size := by rw [size_extract s a b hb]; exact h
  have h2 : a + i < s.size := by omega
  rw [bt_in h1, bt_in h2, getElem_extract h1 h2]

/-- the first place from i on, below n, of which p holds; n where there is none -/
def firstF (p : Nat → Bool) : Nat → Nat → Nat
  | 0, i => i
  | f + 1, i => if p i then i else firstF p f (i + 1)
def first (p : Nat → Bool) (n i : Nat) : Nat := firstF p (n - i) i

theorem firstF_spec (p : Nat → Bool) (f i : Nat) : i ≤ firstF p f i ∧ firstF p f i ≤ i + f ∧ (∀ j, i ≤ j → j < firstF p f i → p j = false) ∧ (firstF p f i < i + f → p (firstF p f i) = true) := by
  induction f generalizing i with
  | zero => exact ⟨Nat.le_refl _, Nat.le_refl _, fun j h1 h2 => by simp [firstF] at h2; omega, fun h => by simp [firstF] at h⟩
  | succ f ih =>
    unfold firstF
    by_cases h : p i = true
    · rw [if_pos h]
      exact ⟨Nat.le_refl _, by omega, fun j h1 h2 => by omega, fun _ => h⟩
    · rw [if_neg h]
      obtain ⟨a, b, c, d⟩ := ih (i + 1)
      refine ⟨by omega, by omega, fun j h1 h2 => ?_, fun h2 => d (by omega)⟩
      by_cases e : j = i
      · subst e; simpa using h
      · exact c j (by omega) h2

theorem first_ge (p : Nat → Bool) (n i : Nat) : i ≤ first p n i := (firstF_spec p (n - i) i).1
theorem first_le {p : Nat → Bool} {n i : Nat} (h : i ≤ n) : first p n i ≤ n := by
  have := (firstF_spec p (n - i) i).2.1; unfold first; omega
theorem first_before {p : Nat → Bool} {n i j : Nat} (h1 : i ≤ j) (h2 : j < first p n i) : p j = false := (firstF_spec p (n - i) i).2.2.1 j h1 h2
theorem first_at {p : Nat → Bool} {n i : Nat} (h : first p n i < n) : p (first p n i) = true := by
  have := first_ge p n i
  exact (firstF_spec p (n - i) i).2.2.2 (by unfold first at *; omega)
theorem first_uniq {p : Nat → Bool} {n i k : Nat} (h1 : i ≤ k) (h2 : k ≤ n) (hb : ∀ j, i ≤ j → j < k → p j = false) (ha : k < n → p k = true) : first p n i = k := by
  have a := first_ge p n i
  have b := first_le (p := p) (i := i) (n := n) (by omega)
  rcases Nat.lt_trichotomy (first p n i) k with h | h | h
  · have := first_at (p := p) (n := n) (i := i) (by omega)
    rw [hb _ a h] at this; cases this
  · exact h
  · have := first_before (p := p) (n := n) (i := i) h1 h
    rw [ha (by omega)] at this; cases this
theorem first_step {p : Nat → Bool} {n i : Nat} (h : i < n) (hp : p i = false) : first p n i = first p n (i + 1) := by
  refine first_uniq ?_ (first_le (by omega)) ?_ first_at
  · have := first_ge p n (i + 1); omega
  · intro j h1 h2
    by_cases e : j = i
    · subst e; exact hp
    · exact first_before (by omega) h2
theorem first_here {p : Nat → Bool} {n i : Nat} (h : i ≤ n) (hp : i < n → p i = true) : first p n i = i :=
  first_uniq (Nat.le_refl _) h (fun j a b => by omega) hp

/-- a blank · the end of a line -/
def sp (n : Nat) : Bool := n == 32 || n == 9 || n == 12
def le (n : Nat) : Bool := n == 10 || n == 13

def skipS (s : ByteArray) (i : Nat) : Nat := first (fun j => !sp (bt s j)) s.size i
def lineE (s : ByteArray) (i : Nat) : Nat := first (fun j => le (bt s j)) s.size i

/-- how many backslashes stand at the end of s[a:e] -/
def trb (s : ByteArray) (a : Nat) : Nat → Nat
  | 0 => 0
  | e + 1 => if a ≤ e ∧ bt s e = 92 then trb s a e + 1 else 0
theorem trb_yes {s : ByteArray} {a e : Nat} (h : a ≤ e) (hb : bt s e = 92) : trb s a (e + 1) = trb s a e + 1 := by
  show (if a ≤ e ∧ bt s e = 92 then trb s a e + 1 else 0) = _
  rw [if_pos ⟨h, hb⟩]
theorem trb_no {s : ByteArray} {a e : Nat} (hb : bt s e ≠ 92) : trb s a (e + 1) = 0 := by
  show (if a ≤ e ∧ bt s e = 92 then trb s a e + 1 else 0) = _
  rw [if_neg (fun x => hb x.2)]
theorem trb_le (s : ByteArray) (a e : Nat) : trb s a e ≤ e - a := by
  induction e with
  | zero => simp [trb]
  | succ e ih => unfold trb; split <;> omega

theorem trb_uniq (s : ByteArray) (a : Nat) : ∀ (e n : Nat), n ≤ e - a → (∀ j, e - n ≤ j → j < e → bt s j = 92) → (n < e - a → bt s (e - 1 - n) ≠ 92) → trb s a e = n := by
  intro e
  induction e with
  | zero => intro n h _ _; simp [trb]; omega
  | succ e ih =>
    intro n h1 h2 h3
    unfold trb
    by_cases hc : a ≤ e ∧ bt s e = 92
    · rw [if_pos hc]
      cases n with
      | zero => exact absurd hc.2 (h3 (by omega))
      | succ n =>
        rw [ih n (by omega) (fun j ha hb => h2 j (by omega) (by omega)) (fun hn => by
          have := h3 (by omega)
          rwa [show e + 1 - 1 - (n + 1) = e - 1 - n by omega] at this)]
    · rw [if_neg hc]
      cases n with
      | zero => rfl
      | succ n => exact absurd ⟨by omega, h2 e (by omega) (by omega)⟩ hc

theorem trb_congr (s t : ByteArray) (a b d : Nat) : ∀ e, (∀ j, j < e → a ≤ j → bt s j = bt t (j + d)) → b = a + d → trb t b (e + d) = trb s a e := by
  intro e
  induction e with
  | zero =>
    intro _ hb
    have := trb_le t b (0 + d)
    have h2 : trb s a 0 = 0 := rfl
    omega
  | succ e ih =>
    intro h hb
    have ih' := ih (fun j hj ha => h j (by omega) ha) hb
    show trb t b (e + 1 + d) = _
    rw [show e + 1 + d = (e + d) + 1 by omega]
    unfold trb
    by_cases ha : a ≤ e
    · rw [← h e (by omega) ha, ih']
      by_cases hc : bt s e = 92
      · rw [if_pos ⟨by omega, hc⟩, if_pos ⟨ha, hc⟩]
      · rw [if_neg (fun x => hc x.2), if_neg (fun x => hc x.2)]
    · rw [if_neg (fun x => by omega), if_neg (fun x => ha x.1)]

theorem trb_extract (s : ByteArray) (a e : Nat) (hae : a ≤ e) (he : e ≤ s.size) : trb (s.extract a e) 0 (e - a) = trb s a e := by
  have := trb_congr (s.extract a e) s 0 a a (e - a) (fun j hj _ => by rw [bt_extract s a e j he hj, Nat.add_comm]) (by omega)
  rw [show e - a + a = e by omega] at this
  exact this.symm

/-- where the line behind the line end at e begins -/
def skipL (s : ByteArray) (e : Nat) : Nat := if bt s e = 13 ∧ bt s (e + 1) = 10 then e + 2 else min (e + 1) s.size

end Go.Proofs.Qxb6601608a

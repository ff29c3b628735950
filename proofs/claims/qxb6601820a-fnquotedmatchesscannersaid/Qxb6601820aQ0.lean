import Derived.Test.Qxb6601820aPlain
namespace Go.Proofs.Qxb6601820a

def sp4 (n : Nat) : Bool := n == 32 || n == 9 || n == 12 || n == 11
def lnE (b : Nat → Nat) (n i : Nat) : Nat := first (fun j => le (b j)) n i

/-- continuation, from place i on: the place behind the quote -/
def ct (b : Nat → Nat) (n : Nat) : Nat → Bool → Nat → Option Nat
  | 0, _, _ => none
  | f + 1, nl, i =>
    if i < n then
      if le (b i) then ct b n f true (i + 1)
      else if sp4 (b i) then ct b n f nl (i + 1)
      else if b i = 45 ∧ b (i + 1) = 45 then ct b n f nl (lnE b n i)
      else if b i = 39 ∧ nl = true then some (i + 1)
      else none
    else none

/-- quoted, from place p on -/
def qd (b : Nat → Nat) (n : Nat) (bs : Bool) : Nat → Nat → Nat
  | 0, _ => n
  | f + 1, p =>
    if p < n then
      if b p = 92 ∧ bs = true then qd b n bs f (p + 2)
      else if b p ≠ 39 then qd b n bs f (p + 1)
      else if b (p + 1) = 39 then qd b n bs f (p + 2)
      else match ct b n (n + 1) false (p + 1) with
        | none => p + 1
        | some q => qd b n bs f q
    else n

/-- the model's automaton -/
def am (b : Nat → Nat) (n : Nat) (bs : Bool) : Nat → Nat → Bool → Nat → Nat → Nat
  | 0, st, _, e, _ => if st = 0 ∨ st = 1 then n else e
  | f + 1, st, nl, e, i =>
    if i < n then
      if st = 2 ∧ b i = 39 then am b n bs f 0 nl e (i + 1)
      else if st = 0 then
        if b i = 92 ∧ bs = true then am b n bs f 1 nl e (i + 1)
        else if b i = 39 then am b n bs f 2 nl (i + 1) (i + 1)
        else am b n bs f 0 nl e (i + 1)
      else if st = 1 then am b n bs f 0 nl e (i + 1)
      else if st = 2 ∨ st = 3 then
        if le (b i) then am b n bs f 3 true e (i + 1)
        else if sp4 (b i) then am b n bs f 3 (if st = 2 then false else nl) e (i + 1)
        else if b i = 45 ∧ i + 1 < n ∧ b (i + 1) = 45 then am b n bs f 4 (if st = 2 then false else nl) e (i + 1)
        else if b i = 39 ∧ (if st = 2 then false else nl) = true then am b n bs f 0 (if st = 2 then false else nl) e (i + 1)
        else e
      else if le (b i) then am b n bs f 3 true e (i + 1)
      else am b n bs f 4 nl e (i + 1)
    else if st = 0 ∨ st = 1 then n else e

theorem lnE_ge (b : Nat → Nat) (n i : Nat) : i ≤ lnE b n i := first_ge _ _ _
theorem lnE_le {b : Nat → Nat} {n i : Nat} (h : i ≤ n) : lnE b n i ≤ n := first_le h
theorem lnE_gt {b : Nat → Nat} {n i : Nat} (h : i < n) (hl : le (b i) = false) : i < lnE b n i := by
  have h1 := first_step (p := fun j => le (b j)) h hl
  have h2 := first_ge (fun j => le (b j)) n (i + 1)
  unfold lnE
  omega

theorem ct_gt (b : Nat → Nat) (n : Nat) : ∀ (f : Nat) (nl : Bool) (i q : Nat), ct b n f nl i = some q → i < q ∧ q ≤ n := by
  intro f
  induction f with
  | zero => intro nl i q h; simp [ct] at h
  | succ f ih =>
    intro nl i q h
    unfold ct at h
    by_cases c0 : i < n
    · rw [if_pos c0] at h
      by_cases c1 : le (b i) = true
      · rw [if_pos c1] at h; have := ih _ _ _ h; omega
      · rw [if_neg c1] at h
        by_cases c2 : sp4 (b i) = true
        · rw [if_pos c2] at h; have := ih _ _ _ h; omega
        · rw [if_neg c2] at h
          by_cases c3 : b i = 45 ∧ b (i + 1) = 45
          · rw [if_pos c3] at h; have := ih _ _ _ h; have := lnE_ge b n i; omega
          · rw [if_neg c3] at h
            by_cases c4 : b i = 39 ∧ nl = true
            · rw [if_pos c4] at h; have := Option.some.inj h; omega
            · rw [if_neg c4] at h; cases h
    · rw [if_neg c0] at h; cases h

theorem ct_fuel (b : Nat → Nat) (n : Nat) : ∀ (f f' : Nat) (nl : Bool) (i : Nat), n - i < f → n - i < f' → ct b n f nl i = ct b n f' nl i := by
  intro f
  induction f with
  | zero => intro f' nl i h; omega
  | succ f ih =>
    intro f' nl i h1 h2
    cases f' with
    | zero => omega
    | succ f' =>
      unfold ct
      by_cases c0 : i < n
      · rw [if_pos c0, if_pos c0]
        by_cases c1 : le (b i) = true
        · rw [if_pos c1, if_pos c1]; exact ih _ _ _ (by omega) (by omega)
        · rw [if_neg c1, if_neg c1]
          have hgt := lnE_gt c0 (by simpa using c1)
          rw [ih f' nl (i + 1) (by omega) (by omega), ih f' nl (lnE b n i) (by omega) (by omega)]
      · rw [if_neg c0, if_neg c0]

theorem ct_shift (b : Nat → Nat) (n p : Nat) (hp : p ≤ n) : ∀ (f : Nat) (nl : Bool) (i : Nat), ct (fun j => b (p + j)) (n - p) f nl i = (ct b n f nl (p + i)).map (fun x => x - p) := by
  intro f
  induction f with
  | zero => intro nl i; rfl
  | succ f ih =>
    intro nl i
    unfold ct
    by_cases c0 : p + i < n
    · rw [if_pos c0, if_pos (by omega)]
      by_cases c1 : le (b (p + i)) = true
      · rw [if_pos c1, if_pos c1, ih]; rfl
      · rw [if_neg c1, if_neg c1]
        by_cases c2 : sp4 (b (p + i)) = true
        · rw [if_pos c2, if_pos c2, ih]; rfl
        · rw [if_neg c2, if_neg c2]
          by_cases c3 : b (p + i) = 45 ∧ b (p + i + 1) = 45
          · rw [if_pos c3, if_pos (by exact c3), ih]
            have e : p + lnE (fun j => b (p + j)) (n - p) i = lnE b n (p + i) := by
              have h1 := lnE_ge (fun j => b (p + j)) (n - p) i
              have h2 := lnE_le (b := fun j => b (p + j)) (n := n - p) (i := i) (by omega)
              refine (first_uniq (by omega) (by omega) (fun j a b2 => ?_) (fun h => ?_)).symm
              · have := first_before (p := fun j => le (b (p + j))) (n := n - p) (i := i) (j := j - p) (by omega) (by have b3 : j < p + first (fun j => le (b (p + j))) (n - p) i := b2; omega)
                rwa [show p + (j - p) = j by omega] at this
              · exact first_at (p := fun j => le (b (p + j))) (n := n - p) (i := i) (by have h3 : p + first (fun j => le (b (p + j))) (n - p) i < n := h; omega)
            rw [e]
          · rw [if_neg c3, if_neg (by exact c3)]
            by_cases c4 : b (p + i) = 39 ∧ nl = true
            · rw [if_pos c4, if_pos c4]
              simp
              omega
            · rw [if_neg c4, if_neg c4]; rfl
    · rw [if_neg c0, if_neg (by omega)]; rfl

theorem qd_fuel (b : Nat → Nat) (n : Nat) (bs : Bool) : ∀ (f f' p : Nat), n - p < f → n - p < f' → qd b n bs f p = qd b n bs f' p := by
  intro f
  induction f with
  | zero => intro f' p h; omega
  | succ f ih =>
    intro f' p h1 h2
    cases f' with
    | zero => omega
    | succ f' =>
      unfold qd
      by_cases c0 : p < n
      · rw [if_pos c0, if_pos c0, ih f' (p + 2) (by omega) (by omega), ih f' (p + 1) (by omega) (by omega)]
        cases hc : ct b n (n + 1) false (p + 1) with
        | none => rfl
        | some q =>
          have := ct_gt b n _ _ _ _ hc
          show (if _ then _ else if _ then _ else if _ then _ else qd b n bs f q) = (if _ then _ else if _ then _ else if _ then _ else qd b n bs f' q)
          rw [ih f' q (by omega) (by omega)]
      · rw [if_neg c0, if_neg c0]

/-- where quoted stops -/
theorem qd_spec (b : Nat → Nat) (n : Nat) (bs : Bool) : ∀ (f p : Nat), p ≤ n → n - p < f →
    p ≤ qd b n bs f p ∧ qd b n bs f p ≤ n ∧ (p < n → p < qd b n bs f p) ∧ (qd b n bs f p < n → 1 ≤ qd b n bs f p ∧ b (qd b n bs f p - 1) = 39 ∧ b (qd b n bs f p) ≠ 39) := by
  intro f
  induction f with
  | zero => intro p _ h; omega
  | succ f ih =>
    intro p hp h1
    have hend : ∀ p', p < p' → n ≤ p' → qd b n bs f p' = n := fun p' _ hn => by
      cases f with
      | zero => rfl
      | succ f => unfold qd; rw [if_neg (by omega)]
    have step : ∀ p', p < p' → p ≤ qd b n bs f p' ∧ qd b n bs f p' ≤ n ∧ (p < n → p < qd b n bs f p') ∧ (qd b n bs f p' < n → 1 ≤ qd b n bs f p' ∧ b (qd b n bs f p' - 1) = 39 ∧ b (qd b n bs f p') ≠ 39) := fun p' hlt => by
      by_cases hn : n ≤ p'
      · rw [hend p' hlt hn]; exact ⟨hp, Nat.le_refl _, fun h => h, fun h => absurd h (Nat.lt_irrefl _)⟩
      · have := ih p' (by omega) (by omega)
        exact ⟨by omega, this.2.1, fun _ => by omega, this.2.2.2⟩
    unfold qd
    by_cases c0 : p < n
    · rw [if_pos c0]
      by_cases c1 : b p = 92 ∧ bs = true
      · rw [if_pos c1]; exact step _ (by omega)
      · rw [if_neg c1]
        by_cases c2 : b p ≠ 39
        · rw [if_pos c2]; exact step _ (by omega)
        · rw [if_neg c2]
          by_cases c3 : b (p + 1) = 39
          · rw [if_pos c3]; exact step _ (by omega)
          · rw [if_neg c3]
            cases hc : ct b n (n + 1) false (p + 1) with
            | none =>
              refine ⟨by show p ≤ p + 1; omega, by show p + 1 ≤ n; omega, fun _ => by show p < p + 1; omega, fun _ => ⟨by show 1 ≤ p + 1; omega, ?_, c3⟩⟩
              show b (p + 1 - 1) = 39
              have : ¬ b p ≠ 39 := c2
              rw [Nat.add_sub_cancel]
              omega
            | some q =>
              have := ct_gt b n _ _ _ _ hc
              exact step q (by omega)
    · rw [if_neg c0]; exact ⟨by omega, Nat.le_refl _, fun h => absurd h c0, fun h => absurd h (Nat.lt_irrefl _)⟩

theorem am_end (b : Nat → Nat) (n : Nat) (bs : Bool) (f st : Nat) (nl : Bool) (e i : Nat) (h : n ≤ i) : am b n bs f st nl e i = if st = 0 ∨ st = 1 then n else e := by
  cases f with
  | zero => rfl
  | succ f => unfold am; rw [if_neg (by omega)]

/-- a comment of the gap: on to its line end -/
theorem am_comment (b : Nat → Nat) (n : Nat) (bs : Bool) (nl : Bool) (e : Nat) : ∀ (k f i : Nat), i + k = lnE b n i → n - i < f → i ≤ n → ∃ f', n - lnE b n i < f' ∧ am b n bs f 4 nl e i = am b n bs f' 4 nl e (lnE b n i) := by
  intro k
  induction k with
  | zero => intro f i h hf _; exact ⟨f, by omega, by rw [← h]; rfl⟩
  | succ k ih =>
    intro f i h hf hi
    cases f with
    | zero => omega
    | succ f =>
      have hle := lnE_le (b := b) hi
      have hlt : i < n := by omega
      have hnl : le (b i) = false := first_before (p := fun j => le (b j)) (Nat.le_refl _) (by have : i < lnE b n i := by omega
                                                                                               exact this)
      have hst : lnE b n i = lnE b n (i + 1) := first_step hlt hnl
      obtain ⟨f', h1, h2⟩ := ih f (i + 1) (by omega) (by omega) (by omega)
      refine ⟨f', by rw [hst]; exact h1, ?_⟩
      rw [hst, ← h2]
      conv => lhs; unfold am
      rw [if_pos hlt, if_neg (by omega), if_neg (by omega), if_neg (by omega), if_neg (by omega), if_neg (by rw [hnl]; exact Bool.false_ne_true)]

/-- the gap behind a closing quote -/
theorem am_gap (b : Nat → Nat) (n : Nat) (bs : Bool) (hb : ∀ j, n ≤ j → b j = 256) (e : Nat) : ∀ (m f i : Nat) (nl : Bool), n - i ≤ m → n - i < f → i ≤ n →
    (ct b n (n + 1) nl i = none ∧ am b n bs f 3 nl e i = e) ∨ (∃ q f' nl', ct b n (n + 1) nl i = some q ∧ n - q < f' ∧ am b n bs f 3 nl e i = am b n bs f' 0 nl' e q) := by
  intro m
  induction m with
  | zero =>
    intro f i nl hm _ hi
    refine .inl ⟨?_, by rw [am_end b n bs f 3 nl e i (by omega), if_neg (by omega)]⟩
    unfold ct; rw [if_neg (by omega)]
  | succ m ih =>
    intro f i nl hm hf hi
    by_cases c0 : i < n
    · cases f with
      | zero => omega
      | succ f =>
        by_cases c1 : le (b i) = true
        · have e1 : am b n bs (f + 1) 3 nl e i = am b n bs f 3 true e (i + 1) := by
            conv => lhs; unfold am
            rw [if_pos c0, if_neg (by omega), if_neg (by omega), if_neg (by omega), if_pos (by omega), if_pos c1]
          have e2 : ct b n (n + 1) nl i = ct b n (n + 1) true (i + 1) := by
            conv => lhs; unfold ct
            rw [if_pos c0, if_pos c1]
            exact ct_fuel b n _ _ _ _ (by omega) (by omega)
          rw [e1, e2]
          exact ih f (i + 1) true (by omega) (by omega) (by omega)
        · by_cases c2 : sp4 (b i) = true
          · have e1 : am b n bs (f + 1) 3 nl e i = am b n bs f 3 nl e (i + 1) := by
              conv => lhs; unfold am
              rw [if_pos c0, if_neg (by omega), if_neg (by omega), if_neg (by omega), if_pos (by omega), if_neg c1, if_pos c2, if_neg (by omega)]
            have e2 : ct b n (n + 1) nl i = ct b n (n + 1) nl (i + 1) := by
              conv => lhs; unfold ct
              rw [if_pos c0, if_neg c1, if_pos c2]
              exact ct_fuel b n _ _ _ _ (by omega) (by omega)
            rw [e1, e2]
            exact ih f (i + 1) nl (by omega) (by omega) (by omega)
          · by_cases c3 : b i = 45 ∧ b (i + 1) = 45
            · have hlt1 : i + 1 < n := Nat.lt_of_not_le fun hn => by have := hb _ hn; omega
              have e1 : am b n bs (f + 1) 3 nl e i = am b n bs f 4 nl e (i + 1) := by
                conv => lhs; unfold am
                rw [if_pos c0, if_neg (by omega), if_neg (by omega), if_neg (by omega), if_pos (by omega), if_neg c1, if_neg c2, if_pos ⟨c3.1, hlt1, c3.2⟩, if_neg (by omega)]
              have hst : lnE b n i = lnE b n (i + 1) := first_step c0 (by simpa using c1)
              have e2 : ct b n (n + 1) nl i = ct b n (n + 1) nl (lnE b n i) := by
                conv => lhs; unfold ct
                rw [if_pos c0, if_neg c1, if_neg c2, if_pos c3]
                have := lnE_ge b n (i + 1)
                exact ct_fuel b n _ _ _ _ (by omega) (by omega)
              have hge := lnE_ge b n (i + 1)
              have hle := lnE_le (b := b) (n := n) (i := i + 1) (by omega)
              obtain ⟨f', h1, h2⟩ := am_comment b n bs nl e (lnE b n (i + 1) - (i + 1)) f (i + 1) (by omega) (by omega) (by omega)
              rw [e1, e2, h2, hst]
              by_cases c5 : lnE b n (i + 1) < n
              · cases f' with
                | zero => omega
                | succ f' =>
                  have hl : le (b (lnE b n (i + 1))) = true := first_at (p := fun j => le (b j)) c5
                  have e3 : am b n bs (f' + 1) 4 nl e (lnE b n (i + 1)) = am b n bs f' 3 true e (lnE b n (i + 1) + 1) := by
                    conv => lhs; unfold am
                    rw [if_pos c5, if_neg (by omega), if_neg (by omega), if_neg (by omega), if_neg (by omega), if_pos hl]
                  have e4 : ct b n (n + 1) nl (lnE b n (i + 1)) = ct b n (n + 1) true (lnE b n (i + 1) + 1) := by
                    conv => lhs; unfold ct
                    rw [if_pos c5, if_pos hl]
                    exact ct_fuel b n _ _ _ _ (by omega) (by omega)
                  rw [e3, e4]
                  exact ih f' _ true (by omega) (by omega) (by omega)
              · refine .inl ⟨?_, by rw [am_end b n bs f' 4 nl e _ (by omega), if_neg (by omega)]⟩
                unfold ct; rw [if_neg c5]
            · have hno : ¬ (b i = 45 ∧ i + 1 < n ∧ b (i + 1) = 45) := fun x => c3 ⟨x.1, x.2.2⟩
              by_cases c4 : b i = 39 ∧ nl = true
              · refine .inr ⟨i + 1, f, nl, ?_, by omega, ?_⟩
                · unfold ct; rw [if_pos c0, if_neg c1, if_neg c2, if_neg c3, if_pos c4]
                · conv => lhs; unfold am
                  rw [if_pos c0, if_neg (by omega), if_neg (by omega), if_neg (by omega), if_pos (by omega), if_neg c1, if_neg c2, if_neg hno, show (if (3 : Nat) = 2 then false else nl) = nl from if_neg (by omega), if_pos c4]
              · refine .inl ⟨?_, ?_⟩
                · unfold ct; rw [if_pos c0, if_neg c1, if_neg c2, if_neg c3, if_neg c4]
                · unfold am
                  rw [if_pos c0, if_neg (by omega), if_neg (by omega), if_neg (by omega), if_pos (by omega), if_neg c1, if_neg c2, if_neg hno, show (if (3 : Nat) = 2 then false else nl) = nl from if_neg (by omega), if_neg c4]
    · refine .inl ⟨?_, by rw [am_end b n bs f 3 nl e i (by omega), if_neg (by omega)]⟩
      unfold ct; rw [if_neg c0]

/-- just behind a quote that is not doubled the automaton stands in the gap, no newline seen -/
theorem am_after (b : Nat → Nat) (n : Nat) (bs : Bool) (f : Nat) (nl : Bool) (e i : Nat) (h : b i ≠ 39) : am b n bs f 2 nl e i = am b n bs f 3 false e i := by
  cases f with
  | zero => unfold am; rw [if_neg (by omega), if_neg (by omega)]
  | succ f =>
    unfold am
    by_cases c0 : i < n
    · rw [if_pos c0, if_pos c0]
      simp [h]
    · rw [if_neg c0, if_neg c0, if_neg (by omega), if_neg (by omega)]

theorem qd_am (b : Nat → Nat) (n : Nat) (bs : Bool) (hb : ∀ j, n ≤ j → b j = 256) : ∀ (m p f g : Nat) (nl : Bool) (e : Nat), n - p ≤ m → n - p < f → n - p < g → qd b n bs f p = am b n bs g 0 nl e p := by
  intro m
  induction m with
  | zero =>
    intro p f g nl e hm hf hg
    rw [am_end b n bs g 0 nl e p (by omega), if_pos (by omega)]
    cases f with
    | zero => omega
    | succ f => unfold qd; rw [if_neg (by omega)]
  | succ m ih =>
    intro p f g nl e hm hf hg
    by_cases c0 : p < n
    · cases f with
      | zero => omega
      | succ f =>
        cases g with
        | zero => omega
        | succ g =>
          by_cases c1 : b p = 92 ∧ bs = true
          · have e1 : am b n bs (g + 1) 0 nl e p = am b n bs g 1 nl e (p + 1) := by
              conv => lhs; unfold am
              rw [if_pos c0, if_neg (by omega), if_pos rfl, if_pos c1]
            have e2 : qd b n bs (f + 1) p = qd b n bs f (p + 2) := by
              conv => lhs; unfold qd
              rw [if_pos c0, if_pos c1]
            rw [e1, e2]
            by_cases c2 : p + 1 < n
            · cases g with
              | zero => omega
              | succ g =>
                have e3 : am b n bs (g + 1) 1 nl e (p + 1) = am b n bs g 0 nl e (p + 2) := by
                  conv => lhs; unfold am
                  rw [if_pos c2, if_neg (by omega), if_neg (by omega), if_pos rfl]
                rw [e3]
                exact ih (p + 2) f g nl e (by omega) (by omega) (by omega)
            · rw [am_end b n bs g 1 nl e (p + 1) (by omega), if_pos (by omega)]
              cases f with
              | zero => rfl
              | succ f => unfold qd; rw [if_neg (by omega)]
          · by_cases c2 : b p ≠ 39
            · have e1 : am b n bs (g + 1) 0 nl e p = am b n bs g 0 nl e (p + 1) := by
                conv => lhs; unfold am
                rw [if_pos c0, if_neg (by omega), if_pos rfl, if_neg c1, if_neg c2]
              have e2 : qd b n bs (f + 1) p = qd b n bs f (p + 1) := by
                conv => lhs; unfold qd
                rw [if_pos c0, if_neg c1, if_pos c2]
              rw [e1, e2]
              exact ih (p + 1) f g nl e (by omega) (by omega) (by omega)
            · have h39 : b p = 39 := by omega
              have e1 : am b n bs (g + 1) 0 nl e p = am b n bs g 2 nl (p + 1) (p + 1) := by
                conv => lhs; unfold am
                rw [if_pos c0, if_neg (by omega), if_pos rfl, if_neg c1, if_pos h39]
              rw [e1]
              by_cases c3 : b (p + 1) = 39
              · have hlt1 : p + 1 < n := Nat.lt_of_not_le fun hn => by have := hb _ hn; omega
                have e2 : qd b n bs (f + 1) p = qd b n bs f (p + 2) := by
                  conv => lhs; unfold qd
                  rw [if_pos c0, if_neg c1, if_neg c2, if_pos c3]
                rw [e2]
                cases g with
                | zero => omega
                | succ g =>
                  have e3 : am b n bs (g + 1) 2 nl (p + 1) (p + 1) = am b n bs g 0 nl (p + 1) (p + 2) := by
                    conv => lhs; unfold am
                    rw [if_pos hlt1, if_pos ⟨rfl, c3⟩]
                  rw [e3]
                  exact ih (p + 2) f g nl _ (by omega) (by omega) (by omega)
              · rw [am_after b n bs g nl _ _ c3]
                have e2 : qd b n bs (f + 1) p = match ct b n (n + 1) false (p + 1) with | none => p + 1 | some q => qd b n bs f q := by
                  conv => lhs; unfold qd
                  rw [if_pos c0, if_neg c1, if_neg c2, if_neg c3]
                rw [e2]
                rcases am_gap b n bs hb (p + 1) (n - (p + 1)) g (p + 1) false (Nat.le_refl _) (by omega) (by omega) with ⟨h1, h2⟩ | ⟨q, f', nl', h1, h2, h3⟩
                · rw [h1, h2]
                · rw [h1, h3]
                  have := ct_gt b n _ _ _ _ h1
                  exact ih q f f' nl' _ (by omega) (by omega) h2
    · rw [am_end b n bs g 0 nl e p (by omega), if_pos (by omega)]
      cases f with
      | zero => omega
      | succ f => unfold qd; rw [if_neg c0]

end Go.Proofs.Qxb6601820a

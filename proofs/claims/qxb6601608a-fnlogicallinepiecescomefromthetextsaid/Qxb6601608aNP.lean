import Derived.Test.Qxb6601608aN1
namespace Go.Proofs.Qxb6601608a

/-- the model, line by line -/
def mdl (s : ByteArray) : Nat → Nat → Nat × Bool
  | 0, _ => (s.size, false)
  | f + 1, i =>
    if i < s.size then
      if skipTo s (lineE s i) i = lineE s i then mdl s f (skipL s (lineE s i))
      else if bt s (skipTo s (lineE s i) i) = 35 ∨ bt s (skipTo s (lineE s i) i) = 33 then mdl s f (skipL s (lineE s i))
      else if bt s (skipTo s (lineE s i) i) = 92 ∧ lineE s i = skipTo s (lineE s i) i + 1 ∧ 3 ≤ s.size - skipTo s (lineE s i) i then mdl s f (skipL s (lineE s i))
      else (skipTo s (lineE s i) i, true)
    else (s.size, false)

/-- nextLine stays at q -/
def Hit (s : ByteArray) (q : Nat) : Prop :=
  q < s.size ∧ sp (bt s q) = false ∧ le (bt s q) = false ∧ ¬ (bt s q = 35 ∨ bt s q = 33) ∧ ¬ (lineE s q = q + 1 ∧ bt s q = 92 ∧ lastL s q = false)

theorem skipS_self {s : ByteArray} {q : Nat} (hq : q ≤ s.size) (h : q < s.size → sp (bt s q) = false) : skipS s q = q :=
  first_here hq (fun hl => by rw [h hl]; rfl)
theorem skipS_not {s : ByteArray} {k : Nat} (h : skipS s k < s.size) : sp (bt s (skipS s k)) = false := by
  have := first_at (p := fun j => !sp (bt s j)) (n := s.size) (i := k) h
  have h2 : (!sp (bt s (skipS s k))) = true := this
  cases hh : sp (bt s (skipS s k)) with
  | false => rfl
  | true => rw [hh] at h2; cases h2
theorem lineE_gt {s : ByteArray} {q : Nat} (hq : q < s.size) (h : le (bt s q) = false) : q < lineE s q := by
  have h1 := first_step (p := fun j => le (bt s j)) hq h
  have h2 := first_ge (fun j => le (bt s j)) s.size (q + 1)
  unfold lineE
  omega
theorem skipL_ge {s : ByteArray} {e : Nat} (he : e ≤ s.size) : e ≤ skipL s e := by
  by_cases h : e < s.size
  · have := skipL_gt h; omega
  · rw [skipL_out (by omega)]; exact he

/-- one step of nl, in one case each: a stop, or on to a later place -/
theorem nl_step (s : ByteArray) (i : Nat) (hi : i ≤ s.size) :
    (skipS s i = s.size ∧ ∀ f, nl s (f + 1) i = (s.size, false)) ∨
    (Hit s (skipS s i) ∧ ∀ f, nl s (f + 1) i = (skipS s i, true)) ∨
    (∃ k, i < k ∧ k ≤ s.size ∧ skipS s i < k ∧ ∀ f, nl s (f + 1) i = nl s f k) := by
  have hq1 := skipS_ge s i
  have hq2 := skipS_le hi
  by_cases h0 : skipS s i = s.size
  · exact .inl ⟨h0, fun f => by rw [nl_end rfl h0, h0]⟩
  · have hlt : skipS s i < s.size := by omega
    cases h1 : le (bt s (skipS s i)) with
    | true => exact .inr (.inr ⟨skipS s i + 1, by omega, by omega, by omega, fun f => nl_le rfl h0 h1⟩)
    | false =>
      by_cases h2 : bt s (skipS s i) = 35 ∨ bt s (skipS s i) = 33
      · have := lineE_gt hlt h1
        exact .inr (.inr ⟨lineE s (skipS s i), by omega, lineE_le hq2, this, fun f => nl_com rfl h0 h1 h2⟩)
      · by_cases h3 : lineE s (skipS s i) = skipS s i + 1 ∧ bt s (skipS s i) = 92 ∧ lastL s (skipS s i) = false
        · have := skipL_ge (s := s) (e := skipS s i + 1) (by omega)
          exact .inr (.inr ⟨skipL s (skipS s i + 1), by omega, skipL_le, by omega, fun f => nl_bsl rfl h0 h1 h2 h3⟩)
        · exact .inr (.inl ⟨⟨hlt, skipS_not hlt, h1, h2, h3⟩, fun f => nl_hit rfl h0 h1 h2 h3⟩)

theorem nl_fuel (s : ByteArray) : ∀ (f f' i : Nat), i ≤ s.size → s.size - i < f → s.size - i < f' → nl s f i = nl s f' i := by
  intro f
  induction f with
  | zero => intro f' i _ h; omega
  | succ f ih =>
    intro f' i hi h1 h2
    cases f' with
    | zero => omega
    | succ f' =>
      rcases nl_step s i hi with ⟨_, h⟩ | ⟨_, h⟩ | ⟨k, hk1, hk2, _, h⟩
      · rw [h, h]
      · rw [h, h]
      · rw [h, h]; exact ih f' k hk2 (by omega) (by omega)

theorem nl_spec (s : ByteArray) : ∀ (f i : Nat), i ≤ s.size → s.size - i < f →
    i ≤ (nl s f i).1 ∧ ((nl s f i = (s.size, false)) ∨ (∃ q, nl s f i = (q, true) ∧ Hit s q)) := by
  intro f
  induction f with
  | zero => intro i _ h; omega
  | succ f ih =>
    intro i hi h1
    rcases nl_step s i hi with ⟨_, h⟩ | ⟨hh, h⟩ | ⟨k, hk1, hk2, _, h⟩
    · rw [h]; exact ⟨hi, .inl rfl⟩
    · rw [h]; exact ⟨skipS_ge s i, .inr ⟨_, rfl, hh⟩⟩
    · rw [h]
      have := ih k hk2 (by omega)
      exact ⟨by omega, this.2⟩

theorem nl_of_hit (s : ByteArray) (q f : Nat) (h : Hit s q) : nl s (f + 1) q = (q, true) := by
  obtain ⟨h0, h1, h2, h3, h4⟩ := h
  have e := skipS_self (s := s) (q := q) (by omega) (fun _ => h1)
  exact nl_hit e (by omega) h2 h3 h4
theorem nl_of_end (s : ByteArray) (f : Nat) : nl s (f + 1) s.size = (s.size, false) :=
  nl_end (skipS_self (Nat.le_refl _) (fun h => absurd h (Nat.lt_irrefl _))) rfl

def NL (s : ByteArray) (i : Nat) : Nat × Bool := nl s (s.size + 1) i
theorem NL_eq {s : ByteArray} {f i : Nat} (hi : i ≤ s.size) (h : s.size - i < f) : nl s f i = NL s i := nl_fuel s _ _ _ hi h (by omega)

/-- at a line end nextLine goes on behind it -/
theorem NL_lineEnd {s : ByteArray} {e : Nat} (he : e ≤ s.size) (h : e < s.size → le (bt s e) = true) : NL s e = NL s (skipL s e) := by
  by_cases hlt : e < s.size
  · have hle := h hlt
    have hsp : sp (bt s e) = false := by
      rcases le_true hle with h | h <;> rw [h] <;> rfl
    have e1 : NL s e = NL s (e + 1) := by
      unfold NL
      rw [nl_le (skipS_self he (fun _ => hsp)) (by omega) hle]
      exact NL_eq (by omega) (by omega)
    by_cases hc : bt s e = 13 ∧ bt s (e + 1) = 10
    · rw [skipL_two hc.1 hc.2, e1]
      have hlt2 : e + 1 < s.size := Nat.lt_of_not_le fun hn => by have := bt_out hn; omega
      unfold NL
      rw [nl_le (skipS_self (by omega) (fun _ => by rw [hc.2]; rfl)) (by omega) (by rw [hc.2]; rfl)]
      exact NL_eq (by omega) (by omega)
    · rw [skipL_one hlt hc, e1]
  · obtain rfl : e = s.size := by omega
    rw [skipL_out (Nat.le_refl _)]

theorem lineE_same {s : ByteArray} {i j : Nat} (h1 : i ≤ j) (h2 : j ≤ lineE s i) (hi : i ≤ s.size) : lineE s j = lineE s i :=
  first_uniq (p := fun j => le (bt s j)) h2 (lineE_le hi) (fun x a b => first_before (p := fun j => le (bt s j)) (n := s.size) (i := i) (by omega) b) (fun h => first_at (p := fun j => le (bt s j)) h)
theorem lineE_at {s : ByteArray} {i : Nat} (h : lineE s i < s.size) : le (bt s (lineE s i)) = true := first_at (p := fun j => le (bt s j)) h
theorem skipTo_ge (s : ByteArray) (e i : Nat) : i ≤ skipTo s e i := first_ge _ _ _
theorem skipTo_le {s : ByteArray} {e i : Nat} (h : i ≤ e) : skipTo s e i ≤ e := first_le h
theorem skipTo_sp {s : ByteArray} {e i j : Nat} (h1 : i ≤ j) (h2 : j < skipTo s e i) : sp (bt s j) = true := by
  have h : (!sp (bt s j)) = false := first_before (p := fun j => !sp (bt s j)) h1 h2
  cases hh : sp (bt s j) with
  | true => rfl
  | false => rw [hh] at h; cases h
theorem skipTo_not {s : ByteArray} {e i : Nat} (h : skipTo s e i < e) : sp (bt s (skipTo s e i)) = false := by
  have h : (!sp (bt s (skipTo s e i))) = true := first_at (p := fun j => !sp (bt s j)) h
  cases hh : sp (bt s (skipTo s e i)) with
  | false => rfl
  | true => rw [hh] at h; cases h
theorem skipS_uniq {s : ByteArray} {i k : Nat} (h1 : i ≤ k) (h2 : k ≤ s.size) (h : ∀ j, i ≤ j → j < k → sp (bt s j) = true) (h3 : k < s.size → sp (bt s k) = false) : skipS s i = k :=
  first_uniq h1 h2 (fun j a b => by rw [h j a b]; rfl) (fun hk => by rw [h3 hk]; rfl)

theorem mdl_eq (s : ByteArray) : ∀ (g i : Nat), i ≤ s.size → s.size - i < g → NL s i = mdl s g i := by
  intro g
  induction g with
  | zero => intro i _ h; omega
  | succ g ih =>
    intro i hi hg
    unfold mdl
    by_cases hlt : i < s.size
    · rw [if_pos hlt]
      have he := lineE_le hi
      have hge := lineE_ge s i
      have hj1 := skipTo_ge s (lineE s i) i
      have hj2 := skipTo_le (s := s) hge
      have hn1 : i < skipL s (lineE s i) := by
        by_cases hh : lineE s i < s.size
        · have := skipL_gt hh; omega
        · rw [skipL_out (by omega)]; exact hlt
      have hn2 := skipL_le (s := s) (e := lineE s i)
      have hend : NL s (lineE s i) = NL s (skipL s (lineE s i)) := NL_lineEnd he lineE_at
      have hnext := ih _ hn2 (by omega)
      by_cases c1 : skipTo s (lineE s i) i = lineE s i
      · rw [if_pos c1, ← hnext, ← hend]
        -- a blank line
        have hs1 : skipS s i = lineE s i := skipS_uniq hge he (fun j a b => skipTo_sp (e := lineE s i) a (by omega)) (fun h => by
          rcases le_true (lineE_at h) with h | h <;> rw [h] <;> rfl)
        have hs2 : skipS s (lineE s i) = lineE s i := skipS_self he (fun h => by
          rcases le_true (lineE_at h) with h | h <;> rw [h] <;> rfl)
        by_cases c0 : lineE s i = s.size
        · unfold NL; rw [nl_end hs1 c0, nl_end hs2 c0]
        · have hl := lineE_at (s := s) (i := i) (by omega)
          unfold NL; rw [nl_le hs1 c0 hl, nl_le hs2 c0 hl]
      · rw [if_neg c1]
        generalize hjj : skipTo s (lineE s i) i = j at *
        have hje : j < lineE s i := by omega
        have hsp : sp (bt s j) = false := by rw [← hjj]; exact skipTo_not (by omega)
        have hsk : skipS s i = j := skipS_uniq hj1 (by omega) (fun x a b => skipTo_sp (e := lineE s i) a (by omega)) (fun _ => hsp)
        have hle : le (bt s j) = false := first_before (p := fun j => le (bt s j)) hj1 hje
        have hlj : lineE s j = lineE s i := lineE_same hj1 (by omega) hi
        have hne : j ≠ s.size := by omega
        by_cases c2 : bt s j = 35 ∨ bt s j = 33
        · rw [if_pos c2, ← hnext, ← hend]
          conv => lhs; unfold NL
          rw [nl_com hsk hne hle c2, hlj]
          exact NL_eq he (by omega)
        · rw [if_neg c2]
          by_cases c3 : bt s j = 92 ∧ lineE s i = j + 1 ∧ 3 ≤ s.size - j
          · rw [if_pos c3, ← hnext]
            conv => lhs; unfold NL
            rw [nl_bsl hsk hne hle c2 ⟨by omega, c3.1, by unfold lastL; rw [hlj]; simp; omega⟩, ← c3.2.1]
            exact NL_eq hn2 (by omega)
          · rw [if_neg c3]
            unfold NL
            refine nl_hit hsk hne hle c2 fun x => c3 ⟨x.2.1, by omega, ?_⟩
            have h3 := x.2.2
            unfold lastL at h3
            simp at h3
            omega
    · obtain rfl : i = s.size := by omega
      rw [if_neg hlt]
      exact nl_of_end s _

end Go.Proofs.Qxb6601608a

import Derived.Test.Qxb6602222aPlain
namespace Go.Proofs.Qxb6602222a

/-- a framer's flags and what has been told: afterEnd, afterCR, crPending, ends -/
abbrev St := Bool × Bool × Bool × List Int

def opt (b : Bool) (out : List Int) (x : Int) : List Int := if b then out ++ [x] else out

/-- Feed, from byte i on -/
def fd (f : Nat → Nat) (n : Nat) (p0 : Int) : Nat → Nat → Bool → Bool → Bool → List Int → St
  | 0, _, ae, ac, cp, out => (ae, ac, cp, out)
  | k + 1, i, ae, ac, cp, out =>
    if i < n then
      if ac = true ∧ f i = 10 then fd f n p0 k (i + 1) ae false false (opt cp out (p0 + i + 1))
      else if f i = 13 then fd f n p0 k (i + 1) (!ae) true ae (opt cp out (p0 + i))
      else if f i = 10 then fd f n p0 k (i + 1) (!ae) false false (opt ae (opt cp out (p0 + i)) (p0 + i + 1))
      else fd f n p0 k (cE f n (i + 1)) false false false (opt cp out (p0 + i))
    else (ae, ac, cp, out)

/-- the model's loop: open, crPending, ends -/
def ml (f : Nat → Nat) (n : Nat) (p0 : Int) : Nat → Nat → Bool → Bool → List Int → Bool × Bool × List Int
  | 0, _, op, cp, out => (op, cp, out)
  | k + 1, i, op, cp, out =>
    if i < n then
      if f i ≠ 13 ∧ f i ≠ 10 then ml f n p0 k (i + 1) false cp out
      else if f i = 13 ∧ i + 1 < n ∧ f (i + 1) = 10 then ml f n p0 k (i + 2) (!op) cp (opt op out (p0 + (i + 2 : Nat)))
      else if f i = 13 ∧ op = true ∧ i + 1 = n then ml f n p0 k (i + 1) false true out
      else ml f n p0 k (i + 1) (!op) cp (opt op out (p0 + (i + 1 : Nat)))
    else (op, cp, out)

def acF (f : Nat → Nat) (n i : Nat) : Bool := decide (i < n ∧ f (n - 1) = 13)

theorem cE_ge (f : Nat → Nat) (n i : Nat) : i ≤ cE f n i := first_ge _ _ _
theorem cE_le {f : Nat → Nat} {n i : Nat} (h : i ≤ n) : cE f n i ≤ n := first_le h
theorem cE_not {f : Nat → Nat} {n i j : Nat} (h1 : i ≤ j) (h2 : j < cE f n i) : f j ≠ 13 ∧ f j ≠ 10 := by
  have := first_before (p := fun j => f j == 10 || f j == 13) h1 h2
  simp at this
  omega

theorem fd_end {f : Nat → Nat} {n : Nat} {p0 : Int} {k i : Nat} {ae ac cp : Bool} {out : List Int} (h : n ≤ i) : fd f n p0 k i ae ac cp out = (ae, ac, cp, out) := by
  cases k with
  | zero => rfl
  | succ k => unfold fd; rw [if_neg (by omega)]
theorem ml_end {f : Nat → Nat} {n : Nat} {p0 : Int} {k i : Nat} {op cp : Bool} {out : List Int} (h : n ≤ i) : ml f n p0 k i op cp out = (op, cp, out) := by
  cases k with
  | zero => rfl
  | succ k => unfold ml; rw [if_neg (by omega)]

/-- bytes that end no line change nothing but 'open' -/
theorem ml_skip (f : Nat → Nat) (n : Nat) (p0 : Int) (cp : Bool) (out : List Int) : ∀ (d k i : Nat), i + d ≤ n → d ≤ k → (∀ j, i ≤ j → j < i + d → f j ≠ 13 ∧ f j ≠ 10) → ml f n p0 k i false cp out = ml f n p0 (k - d) (i + d) false cp out := by
  intro d
  induction d with
  | zero => intro k i _ _ _; rfl
  | succ d ih =>
    intro k i h1 h2 h3
    cases k with
    | zero => omega
    | succ k =>
      conv => lhs; unfold ml
      rw [if_pos (by omega), if_pos (h3 i (Nat.le_refl _) (by omega)), ih k (i + 1) (by omega) (by omega) (fun j a b => h3 j (by omega) (by omega))]
      rw [show k + 1 - (d + 1) = k - d by omega, show i + 1 + d = i + (d + 1) by omega]

theorem ml_fuel (f : Nat → Nat) (n : Nat) (p0 : Int) : ∀ (k k' i : Nat) (op cp : Bool) (out : List Int), n - i < k → n - i < k' → ml f n p0 k i op cp out = ml f n p0 k' i op cp out := by
  intro k
  induction k with
  | zero => intro k' i op cp out h; omega
  | succ k ih =>
    intro k' i op cp out h1 h2
    cases k' with
    | zero => omega
    | succ k' =>
      by_cases c0 : i < n
      · unfold ml
        rw [if_pos c0, if_pos c0, ih k' (i + 1) false cp out (by omega) (by omega), ih k' (i + 1) false true out (by omega) (by omega), ih k' (i + 1) (!op) cp _ (by omega) (by omega), ih k' (i + 2) (!op) cp _ (by omega) (by omega)]
      · rw [ml_end (by omega), ml_end (by omega)]

/-- a pending block end is told at the next byte, if that is no LF that joins its CR -/
theorem fd_flush {f : Nat → Nat} {n : Nat} {p0 : Int} {k i : Nat} {ae ac cp : Bool} {out : List Int} (h : i < n) (hn : ¬ (ac = true ∧ f i = 10)) : fd f n p0 (k + 1) i ae ac cp out = fd f n p0 (k + 1) i ae false false (opt cp out (p0 + i)) := by
  have hr : fd f n p0 (k + 1) i ae false false (opt cp out (p0 + i)) = if f i = 13 then fd f n p0 k (i + 1) (!ae) true ae (opt cp out (p0 + i))
      else if f i = 10 then fd f n p0 k (i + 1) (!ae) false false (opt ae (opt cp out (p0 + i)) (p0 + i + 1))
      else fd f n p0 k (cE f n (i + 1)) false false false (opt cp out (p0 + i)) := by
    conv => lhs; unfold fd
    rw [if_pos h, if_neg (fun x => by cases x.1)]
    rfl
  rw [hr]
  conv => lhs; unfold fd
  rw [if_pos h, if_neg hn]

def res (f : Nat → Nat) (n i : Nat) (r : Bool × Bool × List Int) : St := (r.1, acF f n i, r.2.1, r.2.2)
theorem acF_same {f : Nat → Nat} {n i j : Nat} (h1 : i < n) (h2 : j < n) : acF f n i = acF f n j := by unfold acF; simp [h1, h2]
theorem acF_off {f : Nat → Nat} {n i j : Nat} (_hj : n ≤ j) (h : f (n - 1) ≠ 13) : acF f n i = acF f n j := by
  unfold acF
  rw [decide_eq_false (fun x => h x.2), decide_eq_false (fun x => h x.2)]

theorem fd_ml (f : Nat → Nat) (n : Nat) (p0 : Int) : ∀ (m k k' i : Nat) (op : Bool) (out : List Int), n - i ≤ m → i ≤ n → n - i < k → n - i < k' → fd f n p0 k i op false false out = res f n i (ml f n p0 k' i op false out) := by
  intro m
  induction m with
  | zero =>
    intro k k' i op out hm hi _ _
    rw [fd_end (by omega), ml_end (by omega)]
    unfold res acF
    rw [decide_eq_false (fun x => by omega)]
  | succ m ih =>
    intro k k' i op out hm hi hk hk'
    by_cases c0 : i < n
    · cases k with
      | zero => omega
      | succ k =>
        cases k' with
        | zero => omega
        | succ k' =>
          by_cases c13 : f i = 13
          · -- a CR
            have e1 : fd f n p0 (k + 1) i op false false out = fd f n p0 k (i + 1) (!op) true op out := by
              conv => lhs; unfold fd
              rw [if_pos c0, if_neg (fun x => by cases x.1), if_pos c13]
              rfl
            rw [e1]
            by_cases c1 : i + 1 < n
            · cases k with
              | zero => omega
              | succ k =>
                by_cases c10 : f (i + 1) = 10
                · have e2 : fd f n p0 (k + 1) (i + 1) (!op) true op out = fd f n p0 k (i + 2) (!op) false false (opt op out (p0 + (i + 2 : Nat))) := by
                    conv => lhs; unfold fd
                    rw [if_pos c1, if_pos ⟨rfl, c10⟩]
                    rw [show p0 + ((i + 1 : Nat) : Int) + 1 = p0 + ((i + 2 : Nat) : Int) by omega]
                  have e3 : ml f n p0 (k' + 1) i op false out = ml f n p0 k' (i + 2) (!op) false (opt op out (p0 + (i + 2 : Nat))) := by
                    conv => lhs; unfold ml
                    rw [if_pos c0, if_neg (by omega), if_pos ⟨c13, c1, c10⟩]
                  rw [e2, e3, ih k k' (i + 2) _ _ (by omega) (by omega) (by omega) (by omega)]
                  unfold res
                  by_cases c2 : i + 2 < n
                  · rw [acF_same c0 c2]
                  · rw [acF_off (i := i) (j := i + 2) (by omega) (by rw [show n - 1 = i + 1 by omega]; omega)]
                · rw [fd_flush c1 (fun x => c10 x.2)]
                  have e3 : ml f n p0 (k' + 1) i op false out = ml f n p0 k' (i + 1) (!op) false (opt op out (p0 + (i + 1 : Nat))) := by
                    conv => lhs; unfold ml
                    rw [if_pos c0, if_neg (by omega), if_neg (fun x => c10 x.2.2), if_neg (by omega)]
                  rw [e3, ih (k + 1) k' (i + 1) _ _ (by omega) (by omega) (by omega) (by omega)]
                  unfold res
                  rw [acF_same c0 c1]
            · rw [fd_end (by omega)]
              have hac : acF f n i = true := by unfold acF; exact decide_eq_true ⟨c0, by rw [show n - 1 = i by omega]; exact c13⟩
              cases op with
              | true =>
                have e3 : ml f n p0 (k' + 1) i true false out = ml f n p0 k' (i + 1) false true out := by
                  conv => lhs; unfold ml
                  rw [if_pos c0, if_neg (by omega), if_neg (fun x => c1 x.2.1), if_pos ⟨c13, rfl, by omega⟩]
                rw [e3, ml_end (by omega)]
                unfold res
                rw [hac]
                rfl
              | false =>
                have e3 : ml f n p0 (k' + 1) i false false out = ml f n p0 k' (i + 1) true false out := by
                  conv => lhs; unfold ml
                  rw [if_pos c0, if_neg (by omega), if_neg (fun x => c1 x.2.1), if_neg (fun x => by cases x.2.1)]
                  rfl
                rw [e3, ml_end (by omega)]
                unfold res
                rw [hac]
                rfl
          · by_cases c10 : f i = 10
            · have e1 : fd f n p0 (k + 1) i op false false out = fd f n p0 k (i + 1) (!op) false false (opt op out (p0 + (i + 1 : Nat))) := by
                conv => lhs; unfold fd
                rw [if_pos c0, if_neg (fun x => by cases x.1), if_neg c13, if_pos c10]
                rw [show p0 + (i : Int) + 1 = p0 + ((i + 1 : Nat) : Int) by omega]
                rfl
              have e3 : ml f n p0 (k' + 1) i op false out = ml f n p0 k' (i + 1) (!op) false (opt op out (p0 + (i + 1 : Nat))) := by
                conv => lhs; unfold ml
                rw [if_pos c0, if_neg (by omega), if_neg (fun x => c13 x.1), if_neg (fun x => c13 x.1)]
              rw [e1, e3, ih k k' (i + 1) _ _ (by omega) (by omega) (by omega) (by omega)]
              unfold res
              by_cases c1 : i + 1 < n
              · rw [acF_same c0 c1]
              · rw [acF_off (i := i) (j := i + 1) (by omega) (by rw [show n - 1 = i by omega]; omega)]
            · have hge := cE_ge f n (i + 1)
              have hle := cE_le (f := f) (n := n) (i := i + 1) (by omega)
              have e1 : fd f n p0 (k + 1) i op false false out = fd f n p0 k (cE f n (i + 1)) false false false out := by
                conv => lhs; unfold fd
                rw [if_pos c0, if_neg (fun x => by cases x.1), if_neg c13, if_neg c10]
                rfl
              have e3 : ml f n p0 (k' + 1) i op false out = ml f n p0 k' (cE f n (i + 1)) false false out := by
                conv => lhs; unfold ml
                rw [if_pos c0, if_pos ⟨c13, c10⟩]
                rw [ml_skip f n p0 false out (cE f n (i + 1) - (i + 1)) k' (i + 1) (by omega) (by omega) (fun j a b => cE_not (n := n) a (by omega))]
                rw [show i + 1 + (cE f n (i + 1) - (i + 1)) = cE f n (i + 1) by omega]
                exact ml_fuel f n p0 _ _ _ _ _ _ (by omega) (by omega)
              rw [e1, e3, ih k k' (cE f n (i + 1)) _ _ (by omega) (by omega) (by omega) (by omega)]
              unfold res
              by_cases c1 : cE f n (i + 1) < n
              · rw [acF_same c0 c1]
              · rw [acF_off (i := i) (j := cE f n (i + 1)) (by omega) (by
                  by_cases e : n - 1 = i
                  · rw [e]; exact c13
                  · exact (cE_not (f := f) (n := n) (i := i + 1) (j := n - 1) (by omega) (by omega)).1)]
    · rw [fd_end (by omega), ml_end (by omega)]
      unfold res acF
      rw [decide_eq_false (fun x => by omega)]

/-- what the model gives -/
def FM (f : Nat → Nat) (n : Nat) (p0 : Int) (ae ac cp : Bool) : St :=
  if n = 0 then (ae, ac, cp, [])
  else if ac = true ∧ f 0 = 10 then
    ((ml f n p0 (n + 1) 1 ae false (opt cp [] (p0 + 1))).1, decide (f (n - 1) = 13), (ml f n p0 (n + 1) 1 ae false (opt cp [] (p0 + 1))).2.1, (ml f n p0 (n + 1) 1 ae false (opt cp [] (p0 + 1))).2.2)
  else ((ml f n p0 (n + 1) 0 ae false (opt cp [] p0)).1, decide (f (n - 1) = 13), (ml f n p0 (n + 1) 0 ae false (opt cp [] p0)).2.1, (ml f n p0 (n + 1) 0 ae false (opt cp [] p0)).2.2)

theorem fd_FM (f : Nat → Nat) (n : Nat) (p0 : Int) (ae ac cp : Bool) : fd f n p0 (n + 1) 0 ae ac cp [] = FM f n p0 ae ac cp := by
  unfold FM
  by_cases h0 : n = 0
  · rw [if_pos h0, fd_end (by omega)]
  · rw [if_neg h0]
    by_cases h1 : ac = true ∧ f 0 = 10
    · rw [if_pos h1]
      have e1 : fd f n p0 (n + 1) 0 ae ac cp [] = fd f n p0 n 1 ae false false (opt cp [] (p0 + 1)) := by
        conv => lhs; unfold fd
        rw [if_pos (by omega), if_pos h1]
        simp
      rw [e1, fd_ml f n p0 (n - 1) n (n + 1) 1 ae _ (Nat.le_refl _) (by omega) (by omega) (by omega)]
      unfold res
      have e2 : acF f n 1 = decide (f (n - 1) = 13) := by
        unfold acF
        by_cases h2 : 1 < n
        · simp [h2]
        · have h3 : f (n - 1) ≠ 13 := by rw [show n - 1 = 0 by omega]; omega
          rw [decide_eq_false (fun x => h3 x.2), decide_eq_false h3]
      rw [e2]
    · rw [if_neg h1, fd_flush (by omega) h1]
      have e0 : opt cp [] (p0 + ((0 : Nat) : Int)) = opt cp [] p0 := by simp
      rw [e0, fd_ml f n p0 n (n + 1) (n + 1) 0 ae _ (by omega) (by omega) (by omega) (by omega)]
      unfold res
      have e2 : acF f n 0 = decide (f (n - 1) = 13) := by unfold acF; simp; omega
      rw [e2]

end Go.Proofs.Qxb6602222a

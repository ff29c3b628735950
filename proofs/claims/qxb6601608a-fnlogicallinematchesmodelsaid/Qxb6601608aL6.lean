import Derived.Test.Qxb6601608aL5
namespace Go.Proofs.Qxb6601608a
open Go.RowKit
/-- the i-th natural line -/
def tn (T : List (Nat × Nat × Nat)) (i : Nat) : Nat × Nat × Nat := T.getD i (0, 0, 0)
theorem tn_zero (x : Nat × Nat × Nat) (T : List (Nat × Nat × Nat)) : tn (x :: T) 0 = x := rfl
theorem tn_succ (x : Nat × Nat × Nat) (T : List (Nat × Nat × Nat)) (i : Nat) : tn (x :: T) (i + 1) = tn T i := by simp [tn]
/-- what the model finds in the natural lines T, told by the stretches D -/
structure Mod (s : ByteArray) (T : List (Nat × Nat × Nat)) (D : List (Nat × Nat)) (st q : Nat) : Prop where
  ne : 0 < D.length
  len : D.length ≤ T.length
  fst : (nth D 0).1 = st
  nxt : ∀ i, i + 1 < D.length → skipTo s (tn T (i + 1)).2.1 (tn T (i + 1)).1 = (nth D (i + 1)).1
  odd : ∀ i, i + 1 < D.length → trb s (nth D i).1 (tn T i).2.1 % 2 = 1
  evn : ∀ i, i + 1 = D.length → trb s (nth D i).1 (tn T i).2.1 % 2 ≠ 1
  snd : ∀ i, i + 1 < D.length → (nth D i).2 + 1 = (tn T i).2.1
  lst : ∀ i, i + 1 = D.length → (nth D i).2 = (tn T i).2.1
  aft : ∀ i, i + 1 = D.length → (tn T i).2.2 = q
  inn : ∀ i, i < D.length → (tn T i).1 ≤ (tn T i).2.1 ∧ (tn T i).2.1 ≤ s.size ∧ (nth D i).1 ≤ (tn T i).2.1

theorem skipS_lineE {s : ByteArray} {a : Nat} (ha : a ≤ s.size) : skipS s a ≤ lineE s a := by
  rcases Nat.lt_or_ge (lineE s a) (skipS s a) with h | h
  · have h1 := skipS_le ha
    have h2 := lineE_at (s := s) (i := a) (by omega)
    have h3 := first_before (p := fun j => !sp (bt s j)) (n := s.size) (i := a) (j := lineE s a) (lineE_ge s a) h
    simp [le, sp] at h2 h3
    omega
  · exact h
theorem skipTo_eq {s : ByteArray} {a : Nat} (ha : a ≤ s.size) : skipTo s (lineE s a) a = skipS s a := by
  have h1 := skipS_lineE ha
  have h2 := lineE_le ha
  refine first_uniq (skipS_ge s a) h1 (fun j a1 a2 => first_before (p := fun j => !sp (bt s j)) a1 a2) (fun h => ?_)
  have := skipS_not (s := s) (k := a) (by omega)
  rw [this]; rfl

theorem mod_end (s : ByteArray) (g : Nat) (x st : Nat) (hst : st ≤ s.size) (he : lineE s st = s.size) (hx : x ≤ s.size) (ht : trb s st s.size % 2 = 1) :
    Mod s [(x, s.size, skipL s s.size), (s.size, s.size, s.size)] (lls s (g + 1 + 1) st).1 st (lls s (g + 1 + 1) st).2 := by
  have h0 : skipL s s.size = s.size := skipL_out (Nat.le_refl _)
  have h1 : skipS s s.size = s.size := Nat.le_antisymm (skipS_le (Nat.le_refl _)) (skipS_ge _ _)
  have h2 : lineE s s.size = s.size := Nat.le_antisymm (lineE_le (Nat.le_refl _)) (lineE_ge _ _)
  have h3 : trb s s.size s.size = 0 := by have := trb_le s s.size s.size; omega
  have h4 : skipTo s s.size s.size = s.size := Nat.le_antisymm (skipTo_le (Nat.le_refl _)) (skipTo_ge _ _ _)
  have h5 := (trb_pos (s := s) (a := st) (e := s.size) (by omega)).2
  rw [lls_on he ht, h0, h1, lls_off h2 (by omega), h0]
  refine ⟨by simp, by simp, rfl, ?_, ?_, ?_, ?_, ?_, ?_, ?_⟩
  · intro i hi
    obtain rfl : i = 0 := by simp at hi; omega
    exact h4
  · intro i hi
    obtain rfl : i = 0 := by simp at hi; omega
    exact ht
  · intro i hi
    obtain rfl : i = 1 := by simp at hi; omega
    show trb s s.size s.size % 2 ≠ 1
    omega
  · intro i hi
    obtain rfl : i = 0 := by simp at hi; omega
    show s.size - 1 + 1 = s.size
    omega
  · intro i hi
    obtain rfl : i = 1 := by simp at hi; omega
    rfl
  · intro i hi
    obtain rfl : i = 1 := by simp at hi; omega
    rfl
  · intro i hi
    match i, hi with
    | 0, _ => exact ⟨hx, Nat.le_refl _, hst⟩
    | 1, _ => exact ⟨Nat.le_refl _, Nat.le_refl _, Nat.le_refl _⟩
    | i + 2, hi => exact absurd (show i + 2 < 2 from hi) (by omega)

theorem mod_all (s : ByteArray) : ∀ (g h x st : Nat), x ≤ st → st ≤ lineE s x → x ≤ s.size → s.size < x + g → s.size < st + h → Mod s (cutL s g x) (lls s h st).1 st (lls s h st).2
  | 0, _, x, _, _, _, h3, h4, _ => by omega
  | g + 1, h, x, st, h1, h2, h3, h4, h5 => by
    obtain ⟨e, he⟩ : ∃ e, lineE s x = e := ⟨_, rfl⟩
    have he' : lineE s st = e := (lineE_same h1 h2 h3).trans he
    have hE := lineE_le h3
    rw [he] at h2 hE
    obtain ⟨h', rfl⟩ : ∃ h', h = h' + 1 := ⟨h - 1, by omega⟩
    by_cases ht : trb s st e % 2 = 1
    · by_cases hes : e = s.size
      · have h6 := (trb_pos (s := s) (a := st) (e := e) (by omega)).2
        obtain ⟨h'', rfl⟩ : ∃ h'', h' = h'' + 1 := ⟨h' - 1, by omega⟩
        rw [cutL_last he hes, hes]
        exact mod_end s h'' x st (by omega) (he'.trans hes) h3 (by rw [← hes]; exact ht)
      · have hL1 := skipL_le (s := s) (e := e)
        have hL2 : e < skipL s e := skipL_gt (by omega)
        have hS1 := skipS_ge s (skipL s e)
        have h6 := (trb_pos (s := s) (a := st) (e := e) (by omega)).2
        rw [cutL_more he hes, lls_on he' ht]
        have M := mod_all s g h' (skipL s e) (skipS s (skipL s e)) hS1 (skipS_lineE hL1) hL1 (by omega) (by omega)
        have hT0 : ∀ g, s.size < skipL s e + g → (tn (cutL s g (skipL s e)) 0).1 = skipL s e ∧ (tn (cutL s g (skipL s e)) 0).2.1 = lineE s (skipL s e) := fun g hg => by
          obtain ⟨g', rfl⟩ : ∃ g', g = g' + 1 := ⟨g - 1, by omega⟩
          rw [cutL]
          exact ⟨rfl, rfl⟩
        obtain ⟨t1, t2⟩ := hT0 g (by omega)
        generalize lls s h' (skipS s (skipL s e)) = L at M ⊢
        obtain ⟨D, q⟩ := L
        generalize cutL s g (skipL s e) = T at M t1 t2 ⊢
        simp only at M
        have hne := M.ne
        have hlen := M.len
        refine ⟨by simp, Nat.succ_le_succ hlen, rfl, ?_, ?_, ?_, ?_, ?_, ?_, ?_⟩
        · intro i hi
          match i, hi with
          | 0, _ =>
            rw [tn_succ, nth_succ, M.fst, t1, t2]
            exact skipTo_eq hL1
          | i + 1, hi => rw [tn_succ, nth_succ]; exact M.nxt i (by simpa using hi)
        · intro i hi
          match i, hi with
          | 0, _ => exact ht
          | i + 1, hi => rw [tn_succ, nth_succ]; exact M.odd i (by simpa using hi)
        · intro i hi
          match i, hi with
          | 0, hi => exact absurd (show 0 + 1 = D.length + 1 from hi) (by omega)
          | i + 1, hi => rw [tn_succ, nth_succ]; exact M.evn i (by simpa using hi)
        · intro i hi
          match i, hi with
          | 0, _ => show e - 1 + 1 = e; omega
          | i + 1, hi => rw [tn_succ, nth_succ]; exact M.snd i (by simpa using hi)
        · intro i hi
          match i, hi with
          | 0, hi => exact absurd (show 0 + 1 = D.length + 1 from hi) (by omega)
          | i + 1, hi => rw [tn_succ, nth_succ]; exact M.lst i (by simpa using hi)
        · intro i hi
          match i, hi with
          | 0, hi => exact absurd (show 0 + 1 = D.length + 1 from hi) (by omega)
          | i + 1, hi => rw [tn_succ]; exact M.aft i (by simpa using hi)
        · intro i hi
          match i, hi with
          | 0, _ => exact ⟨(show x ≤ e by omega), hE, h2⟩
          | i + 1, hi => rw [tn_succ, nth_succ]; exact M.inn i (by simpa using hi)
    · rw [lls_off he' ht]
      have hT : (cutL s (g + 1) x).length ≥ 1 ∧ tn (cutL s (g + 1) x) 0 = (x, e, skipL s e) := by
        rw [cutL, he]; exact ⟨by simp, rfl⟩
      generalize cutL s (g + 1) x = T at hT
      obtain ⟨t1, t2⟩ := hT
      refine ⟨by simp, by simpa using t1, rfl, fun i hi => by simp at hi, fun i hi => by simp at hi, ?_, fun i hi => by simp at hi, ?_, ?_, ?_⟩
      · intro i hi
        obtain rfl : i = 0 := by simpa using hi
        rw [t2]; exact ht
      · intro i hi
        obtain rfl : i = 0 := by simpa using hi
        rw [t2]; rfl
      · intro i hi
        obtain rfl : i = 0 := by simpa using hi
        rw [t2]
      · intro i hi
        obtain rfl : i = 0 := by simpa using hi
        rw [t2]; exact ⟨(show x ≤ e by omega), hE, h2⟩
theorem mod_of (s : ByteArray) (p : Nat) (hp : p ≤ s.size) : Mod s (cutL s (s.size + 1) p) (lls s (s.size + 1) p).1 p (lls s (s.size + 1) p).2 :=
  mod_all s (s.size + 1) (s.size + 1) p p (Nat.le_refl _) (lineE_ge s p) hp (by omega) (by omega)
theorem cutL_head (s : ByteArray) (g p : Nat) : (tn (cutL s (g + 1) p) 0).1 = p := by rw [cutL]; rfl
theorem cutL_len (s : ByteArray) : ∀ (g p : Nat), (cutL s g p).length ≤ g + 1
  | 0, _ => by simp [cutL]
  | g + 1, p => by
    rw [cutL]
    split
    · simp
    · have := cutL_len s g (skipL s (lineE s p))
      simp; omega
end Go.Proofs.Qxb6601608a

import Derived.Test.Qxb6601608aL0
import Derived.Test.Qxb6601608aNP
namespace Go.Proofs.Qxb6601608a

theorem lls_ne (s : ByteArray) (g p : Nat) : (lls s (g + 1) p).1 ≠ [] := by
  rw [lls]
  split <;> simp
/-- the answer -/
def joined (s : ByteArray) (D : List (Nat × Nat)) : ByteArray := ⟨(cat s D).toArray⟩
/-- what the room for a line holds -/
def room (s : ByteArray) (D : List (Nat × Nat)) : List UInt8 := if D.length = 1 then [] else cat s D
theorem lls_len_le (s : ByteArray) : ∀ (g st : Nat), (lls s g st).1.length ≤ g
  | 0, _ => by simp [lls]
  | g + 1, st => by
    rw [lls]
    split
    · simpa using lls_len_le s g _
    · simp
/-- the i-th stretch -/
def nth (D : List (Nat × Nat)) (i : Nat) : Nat × Nat := D.getD i (0, 0)
/-- where the i-th piece begins in the answer -/
def off (D : List (Nat × Nat)) (i : Nat) : Nat := len (D.take i)
theorem nth_zero (x : Nat × Nat) (D : List (Nat × Nat)) : nth (x :: D) 0 = x := rfl
theorem nth_succ (x : Nat × Nat) (D : List (Nat × Nat)) (i : Nat) : nth (x :: D) (i + 1) = nth D i := by simp [nth]
theorem off_zero (D : List (Nat × Nat)) : off D 0 = 0 := by simp [off, len]
theorem off_succ' (x : Nat × Nat) (D : List (Nat × Nat)) (i : Nat) : off (x :: D) (i + 1) = (x.2 - x.1) + off D i := by simp [off, len]
theorem off_all (D : List (Nat × Nat)) : off D D.length = len D := by simp [off]
theorem off_succ : ∀ (D : List (Nat × Nat)) (i : Nat), i < D.length → off D (i + 1) = off D i + ((nth D i).2 - (nth D i).1)
  | x :: D, 0, _ => by rw [off_succ', off_zero, off_zero, nth_zero]; omega
  | x :: D, i + 1, h => by
    rw [off_succ', off_succ', nth_succ, off_succ D i (by simpa using h)]; omega
theorem off_le : ∀ (D : List (Nat × Nat)) (i : Nat), off D i ≤ len D
  | [], i => by simp [off]
  | x :: D, 0 => by rw [off_zero]; omega
  | x :: D, i + 1 => by
    have := off_le D i
    rw [off_succ']
    simp only [len, List.map_cons, List.sum_cons] at *
    omega
theorem pcs_nth : ∀ (D : List (Nat × Nat)) (o i : Nat), i < D.length → (pcs o D).getD i (0, 0) = (o + off D i, (nth D i).1)
  | x :: D, o, 0, _ => by simp [pcs, off_zero, nth]
  | x :: D, o, i + 1, h => by
    have := pcs_nth D (o + (x.2 - x.1)) i (by simpa using h)
    rw [pcs, off_succ', nth_succ, List.getD_cons_succ, this, Nat.add_assoc]

/-- what the stretches are -/
structure Good (s : ByteArray) (D : List (Nat × Nat)) (st q : Nat) : Prop where
  ne : 0 < D.length
  hd : (nth D 0).1 = st
  le1 : st ≤ q
  le2 : q ≤ s.size
  mv : q = st → st = s.size
  ln : len D ≤ q - st
  inn : ∀ i, i < D.length → (nth D i).1 ≤ (nth D i).2 ∧ (nth D i).2 ≤ s.size
  cl : ∀ i, i < D.length → ∀ j, (nth D i).1 ≤ j → j < (nth D i).2 → le (bt s j) = false
  mid : ∀ i, i + 1 < D.length → (nth D i).2 < s.size ∧ bt s (nth D i).2 = 92 ∧ (nth D i).2 < (nth D (i + 1)).1
  lst : ∀ i, i + 1 = D.length → (nth D i).2 = s.size ∨ ((nth D i).2 < s.size ∧ le (bt s (nth D i).2) = true)

theorem trb_pos {s : ByteArray} {a e : Nat} (h : 0 < trb s a e) : bt s (e - 1) = 92 ∧ a < e := by
  have h0 := trb_le s a e
  obtain ⟨e', rfl⟩ : ∃ e', e = e' + 1 := ⟨e - 1, by omega⟩
  refine ⟨?_, by omega⟩
  by_cases hb : bt s e' = 92
  · simpa using hb
  · rw [trb_no hb] at h; omega

theorem lls_good (s : ByteArray) : ∀ (g st : Nat), st ≤ s.size → s.size < st + g → Good s (lls s g st).1 st (lls s g st).2
  | 0, st, h1, h2 => by omega
  | g + 1, st, h1, h2 => by
    obtain ⟨e, he⟩ : ∃ e, lineE s st = e := ⟨_, rfl⟩
    have hE1 := lineE_le (s := s) h1
    have hE2 := lineE_ge s st
    have hE3 : ∀ j, st ≤ j → j < e → le (bt s j) = false := fun j a b => first_before (p := fun j => le (bt s j)) (n := s.size) a (by rw [← he] at b; exact b)
    have hE4 : e < s.size → le (bt s e) = true := fun h => by rw [← he] at h ⊢; exact lineE_at h
    rw [he] at hE1 hE2
    have hL1 := skipL_le (s := s) (e := e)
    have hL2 := skipL_ge hE1
    have hL3 : e < s.size → e < skipL s e := fun h => skipL_gt h
    by_cases ht : trb s st e % 2 = 1
    · rw [lls_on he ht]
      obtain ⟨hb, hlt⟩ := trb_pos (s := s) (a := st) (e := e) (by omega)
      have hS1 := skipS_ge s (skipL s e)
      have hS2 := skipS_le hL1
      have G := lls_good s g (skipS s (skipL s e)) hS2 (by omega)
      obtain ⟨D, hD⟩ : ∃ D, (lls s g (skipS s (skipL s e))).1 = D := ⟨_, rfl⟩
      obtain ⟨q, hq⟩ : ∃ q, (lls s g (skipS s (skipL s e))).2 = q := ⟨_, rfl⟩
      rw [hD, hq] at G ⊢
      have := G.le1
      have := G.le2
      refine ⟨by simp, rfl, by omega, by omega, by omega, ?_, ?_, ?_, ?_, ?_⟩
      · have h := G.ln
        simp only [len, List.map_cons, List.sum_cons] at *
        omega
      · intro i hi
        match i, hi with
        | 0, _ => exact ⟨(show st ≤ e - 1 by omega), (show e - 1 ≤ s.size by omega)⟩
        | i + 1, hi => rw [nth_succ]; exact G.inn i (by simpa using hi)
      · intro i hi j
        match i, hi with
        | 0, _ => rw [nth_zero]; intro a b; exact hE3 j a (by simp only at b; omega)
        | i + 1, hi => rw [nth_succ]; exact G.cl i (by simpa using hi) j
      · intro i hi
        match i, hi with
        | 0, _ =>
          rw [nth_zero, nth_succ, G.hd]
          exact ⟨(show e - 1 < s.size by omega), hb, (show e - 1 < skipS s (skipL s e) by omega)⟩
        | i + 1, hi => rw [nth_succ, nth_succ]; exact G.mid i (by simpa using hi)
      · intro i hi
        have hne := G.ne
        match i, hi with
        | 0, hi =>
          have hi' : 0 + 1 = D.length + 1 := hi
          omega
        | i + 1, hi => rw [nth_succ]; exact G.lst i (by simpa using hi)
    · rw [lls_off he ht]
      refine ⟨by simp, rfl, by omega, hL1, by omega, by simp [len]; omega, ?_, ?_, ?_, ?_⟩
      · intro i hi
        obtain rfl : i = 0 := by simpa using hi
        exact ⟨hE2, hE1⟩
      · intro i hi j
        obtain rfl : i = 0 := by simpa using hi
        exact hE3 j
      · intro i hi; simp at hi
      · intro i hi
        obtain rfl : i = 0 := by simpa using hi
        rcases Nat.lt_or_ge e s.size with h | h
        · exact .inr ⟨h, hE4 h⟩
        · exact .inl (by show e = s.size; omega)

theorem Good.fits {s : ByteArray} {D : List (Nat × Nat)} {st q : Nat} (h : Good s D st q) : Fits s D := by
  intro x hx
  obtain ⟨i, hi, rfl⟩ := List.getElem_of_mem hx
  have := (h.inn i hi).2
  simpa [nth, hi] using this
theorem seg_le {s : ByteArray} {a e : Nat} (he : e ≤ s.size) (h : ∀ j, a ≤ j → j < e → le (bt s j) = false) : ∀ b ∈ seg s a e, le b.toNat = false := by
  intro b hb
  obtain ⟨i, hi, rfl⟩ := List.getElem_of_mem hb
  have hl := seg_length s a e he
  have hsz := size_extract s a e he
  have h1 : i < (s.extract a e).size := by omega
  have h2 := h (a + i) (by omega) (by omega)
  rw [bt_in (by omega), ← getElem_extract h1 (by omega)] at h2
  exact h2
theorem Good.clean {s : ByteArray} {D : List (Nat × Nat)} {st q : Nat} (h : Good s D st q) : ∀ b ∈ cat s D, le b.toNat = false := by
  intro b hb
  obtain ⟨x, hx, hb⟩ := List.mem_flatMap.1 hb
  obtain ⟨i, hi, rfl⟩ := List.getElem_of_mem hx
  have h1 := (h.inn i hi).2
  have h2 := h.cl i hi
  have e : nth D i = D[i] := by simp [nth, hi]
  rw [e] at h1 h2
  exact seg_le h1 h2 b hb
theorem joined_size {s : ByteArray} {D : List (Nat × Nat)} (h : Fits s D) : (joined s D).size = len D := by
  rw [← cat_length h]; rfl
theorem Good.byte {s : ByteArray} {D : List (Nat × Nat)} {st q : Nat} (h : Good s D st q) {k : Nat} (hk : k < (joined s D).size) : le (((joined s D)[k]'hk).toNat) = false := by
  refine h.clean _ ?_
  have : (joined s D)[k]'hk = (cat s D)[k]'hk := rfl
  rw [this]
  exact List.getElem_mem _
theorem cat_at (s : ByteArray) : ∀ (D : List (Nat × Nat)) (i : Nat), Fits s D → i < D.length → ((cat s D).drop (off D i)).take ((nth D i).2 - (nth D i).1) = seg s (nth D i).1 (nth D i).2
  | x :: D, 0, hf, _ => by
    have hl := seg_length s x.1 x.2 (hf x (List.mem_cons_self ..))
    rw [off_zero, nth_zero, List.drop_zero]
    show (seg s x.1 x.2 ++ cat s D).take _ = _
    rw [← hl]; simp
  | x :: D, i + 1, hf, h => by
    have ih := cat_at s D i (fun y hy => hf y (List.mem_cons_of_mem _ hy)) (by simpa using h)
    have hl := seg_length s x.1 x.2 (hf x (List.mem_cons_self ..))
    rw [off_succ', nth_succ]
    show ((seg s x.1 x.2 ++ cat s D).drop _).take _ = _
    rw [← hl, List.drop_append, Nat.add_sub_cancel_left, List.drop_eq_nil_of_le (by omega), List.nil_append, ih]
theorem Good.piece {s : ByteArray} {D : List (Nat × Nat)} {st q : Nat} (h : Good s D st q) {i : Nat} (hi : i < D.length) : (joined s D).extract (off D i) (off D (i + 1)) = s.extract (nth D i).1 (nth D i).2 := by
  have h1 := cat_at s D i h.fits hi
  have h2 := off_succ D i hi
  apply ByteArray.ext
  apply Array.toList_inj.1
  rw [ByteArray.data_extract, Array.toList_extract]
  show List.extract (cat s D) _ _ = _
  rw [List.extract_eq_take_drop, h2, Nat.add_sub_cancel_left, h1]
  rfl
theorem joined_one {s : ByteArray} {D : List (Nat × Nat)} {st q : Nat} (h : Good s D st q) : (if D.length = 1 then s.extract st (D.getD 0 (0, 0)).2 else ⟨(cat s D).toArray⟩) = joined s D := by
  split
  · rename_i h1
    match D, h1, h.hd with
    | [x], _, hd =>
      rw [nth_zero] at hd
      subst hd
      show s.extract x.1 x.2 = ⟨(cat s [x]).toArray⟩
      have e : cat s [x] = (s.extract x.1 x.2).data.toList := by rw [cat, List.flatMap_cons, List.flatMap_nil, List.append_nil]; rfl
      rw [e, Array.toArray_toList]
  · rfl
end Go.Proofs.Qxb6601608a

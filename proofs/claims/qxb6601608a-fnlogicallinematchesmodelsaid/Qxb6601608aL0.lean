import Derived.Test.Qxb6601608aW2
namespace Go.Proofs.Qxb6601608a
open Go.RowKit

/-- the bytes of a stretch of the text -/
def seg (s : ByteArray) (a e : Nat) : List UInt8 := (s.extract a e).data.toList
/-- the bytes of stretches, one behind the other -/
def cat (s : ByteArray) (D : List (Nat × Nat)) : List UInt8 := D.flatMap fun x => seg s x.1 x.2
/-- how long the stretches are together -/
def len (D : List (Nat × Nat)) : Nat := (D.map fun x => x.2 - x.1).sum
/-- the pieces as they are recorded: the place in the answer, the place in the text -/
def pcs : Nat → List (Nat × Nat) → List (Nat × Nat)
  | _, [] => []
  | o, x :: D => (o, x.1) :: pcs (o + (x.2 - x.1)) D
/-- the stretches of the logical line that starts at st, and where reading stops -/
def lls (s : ByteArray) : Nat → Nat → List (Nat × Nat) × Nat
  | 0, st => ([], st)
  | g + 1, st =>
    if trb s st (lineE s st) % 2 = 1 then ((st, lineE s st - 1) :: (lls s g (skipS s (skipL s (lineE s st)))).1, (lls s g (skipS s (skipL s (lineE s st)))).2)
    else ([(st, lineE s st)], skipL s (lineE s st))

theorem seg_length (s : ByteArray) (a e : Nat) (h : e ≤ s.size) : (seg s a e).length = e - a := by
  have := size_extract s a e h
  rw [← this]; rfl
def Fits (s : ByteArray) (D : List (Nat × Nat)) : Prop := ∀ x ∈ D, x.2 ≤ s.size
theorem Fits.nil (s : ByteArray) : Fits s [] := fun _ h => by cases h
theorem Fits.snoc {s : ByteArray} {D : List (Nat × Nat)} {x : Nat × Nat} (h : Fits s D) (hx : x.2 ≤ s.size) : Fits s (D ++ [x]) := by
  intro y hy
  rcases List.mem_append.1 hy with h1 | h1
  · exact h y h1
  · rw [List.mem_singleton.1 h1]; exact hx
theorem cat_length {s : ByteArray} : ∀ {D : List (Nat × Nat)}, Fits s D → (cat s D).length = len D
  | [], _ => rfl
  | x :: D, h => by
    have h1 := cat_length (s := s) (D := D) (fun y hy => h y (List.mem_cons_of_mem _ hy))
    unfold cat len at *
    rw [List.flatMap_cons, List.length_append, h1, seg_length _ _ _ (h x (List.mem_cons_self ..))]
    simp
theorem cat_snoc (s : ByteArray) (D : List (Nat × Nat)) (x : Nat × Nat) : cat s (D ++ [x]) = cat s D ++ seg s x.1 x.2 := by simp [cat]
theorem len_snoc (D : List (Nat × Nat)) (x : Nat × Nat) : len (D ++ [x]) = len D + (x.2 - x.1) := by simp [len]
theorem pcs_snoc (x : Nat × Nat) : ∀ (D : List (Nat × Nat)) (o : Nat), pcs o (D ++ [x]) = pcs o D ++ [(o + len D, x.1)]
  | [], o => by simp [pcs, len]
  | y :: D, o => by
    rw [List.cons_append, pcs, pcs_snoc x D, pcs, List.cons_append]
    simp [len]; omega
theorem pcs_length : ∀ (D : List (Nat × Nat)) (o : Nat), (pcs o D).length = D.length
  | [], _ => rfl
  | x :: D, o => by simp [pcs, pcs_length D]

theorem lls_on {s : ByteArray} {g st e : Nat} (he : lineE s st = e) (h : trb s st e % 2 = 1) : lls s (g + 1) st = ((st, e - 1) :: (lls s g (skipS s (skipL s e))).1, (lls s g (skipS s (skipL s e))).2) := by
  subst he; rw [lls, if_pos h]
theorem lls_off {s : ByteArray} {g st e : Nat} (he : lineE s st = e) (h : trb s st e % 2 ≠ 1) : lls s (g + 1) st = ([(st, e)], skipL s e) := by
  subst he; rw [lls, if_neg h]
/-- the whole, part by part -/
def Upto (s : ByteArray) (p : Nat) (D : List (Nat × Nat)) (g st : Nat) : Prop := lls s (s.size + 1) p = (D ++ (lls s g st).1, (lls s g st).2)
theorem Upto.on {s : ByteArray} {p : Nat} {D : List (Nat × Nat)} {g st e : Nat} (h : Upto s p D (g + 1) st) (he : lineE s st = e) (ht : trb s st e % 2 = 1) : Upto s p (D ++ [(st, e - 1)]) g (skipS s (skipL s e)) := by
  unfold Upto at *
  rw [h, lls_on he ht]; simp
theorem Upto.off {s : ByteArray} {p : Nat} {D : List (Nat × Nat)} {g st e : Nat} (h : Upto s p D (g + 1) st) (he : lineE s st = e) (ht : trb s st e % 2 ≠ 1) : lls s (s.size + 1) p = (D ++ [(st, e)], skipL s e) := by
  unfold Upto at *
  rw [h, lls_off he ht]
end Go.Proofs.Qxb6601608a

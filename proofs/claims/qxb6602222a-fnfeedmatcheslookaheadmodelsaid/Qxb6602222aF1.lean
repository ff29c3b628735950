import Derived.Test.Qxb6602222aS4
import Derived.Test.Qxb6602222aF0
import Derived.Maps.AppendAt
import Derived.Deep.DeepCutAuto
namespace Go.Proofs.Qxb6602222a
open Go.RowKit

/-- a framer's cells -/
def frm (p : Int) (ae ac cp : Bool) : Nat → Value
  | 0 => .int .i64 p
  | 1 => .bool ae
  | 2 => .bool ac
  | _ => .bool cp

/-- blocks of W outside S are as they were -/
structure Kept (S : Nat → Prop) (W w : World) : Prop where
  os : w.os = W.os
  tape : w.tape = W.tape
  output : w.output = W.output
  size : W.heap.size ≤ w.heap.size
  block : ∀ k, k < W.heap.size → ¬ S k → w.heap[k]? = W.heap[k]?
theorem Kept.refl (S : Nat → Prop) (W : World) : Kept S W W := ⟨rfl, rfl, rfl, Nat.le_refl _, fun _ _ _ => rfl⟩
theorem Kept.trans {S : Nat → Prop} {A B C : World} (h : Kept S A B) (os : C.os = B.os) (tape : C.tape = B.tape) (output : C.output = B.output) (size : B.heap.size ≤ C.heap.size) (block : ∀ k, k < A.heap.size → ¬ S k → C.heap[k]? = B.heap[k]?) : Kept S A C :=
  ⟨os.trans h.os, tape.trans h.tape, output.trans h.output, Nat.le_trans h.size size, fun k hk hS => (block k hk hS).trans (h.block k hk hS)⟩

def ints (E : List Int) : List Value := E.map (Value.int .i64)

structure FS (W : World) (v0 : Value) (w : World) (fb q g n base : Nat) (f : Nat → Nat) (p : Int) (ae ac cp : Bool) (cr : Int) (v : Value) (E : List Int) : Prop where
  fr : w.rowIs fb 44 4 (frm p ae ac cp)
  bys : Bytes w g n f
  ce : Cell w q g cr
  own : w.ownsRow base 2 1 v E.length (ints E)
  ob : ∀ k, v.ownBlock = some k → k ≠ fb ∧ k ≠ q ∧ k ≠ g
  fq : fb ≠ q
  fg : fb ≠ g
  qW : W.heap.size ≤ q
  ql : q < w.heap.size
  kept : Kept (fun k => k = fb ∨ v0.ownBlock = some k) W w
  vo : v.ownBlock = v0.ownBlock ∨ ∀ k, v.ownBlock = some k → W.heap.size ≤ k
  bs : base ≤ w.heap.size

theorem grown_set (w : World) (a : Addr) (v : Value) : w.grownBy (w.setCell a v) (some a.block) :=
  ⟨rfl, rfl, rfl, by simp [World.setCell], fun k _ hne => Below.heap_setCell _ _ _ _ (fun e => hne (by rw [e]))⟩
theorem own_set {w : World} {base e size : Nat} {v : Value} {n : Nat} {xs : List Value} (h : w.ownsRow base e size v n xs) (a : Addr) (u : Value) (hne : v.ownBlock ≠ some a.block) : (w.setCell a u).ownsRow base e size v n xs :=
  h.kept (grown_set w a u) (.inr hne)

section
variable {W w : World} {v0 v : Value} {fb q g n base : Nat} {f : Nat → Nat} {p cr : Int} {ae ac cp : Bool} {E : List Int}
theorem FS.st (h : FS W v0 w fb q g n base f p ae ac cp cr v E) (k : Nat) (u : Value) {p' : Int} {ae' ac' cp' : Bool} (_hk : k < 4) (hu : ∀ i, i < 4 → (if i = k then u else frm p ae ac cp i) = frm p' ae' ac' cp' i) :
    FS W v0 (w.setCell ⟨fb, k, none⟩ u) fb q g n base f p' ae' ac' cp' cr v E := by
  refine ⟨(h.fr.set k u).congr hu, h.bys.setOther (Ne.symm h.fg) u, ?_, own_set h.own _ u ?_, h.ob, h.fq, h.fg, h.qW, ?_, ?_, h.vo, ?_⟩
  · refine ⟨?_, by rw [World.frozen?_setCell]; exact h.ce.2.1, h.ce.2.2⟩
    rw [World.cell?_setCell_other w _ _ _ (by intro e; exact h.fq (congrArg Addr.block e))]; exact h.ce.1
  · intro e; exact (h.ob fb e).1 rfl
  · have := h.ql; simpa [World.setCell] using this
  · exact h.kept.trans rfl rfl rfl (by simp [World.setCell]) (fun k _ hS => Below.heap_setCell _ _ _ _ (fun e => hS (.inl e)))
  · have := h.bs; simpa [World.setCell] using this
theorem FS.setP (h : FS W v0 w fb q g n base f p ae ac cp cr v E) (u : Value) (p' : Int) (hu : u = .int .i64 p') : FS W v0 (w.setCell ⟨fb, 0, none⟩ u) fb q g n base f p' ae ac cp cr v E :=
  h.st 0 u (by omega) (fun i hi => by match i, hi with | 0, _ => simp [frm, hu] | 1, _ => rfl | 2, _ => rfl | 3, _ => rfl)
theorem FS.setAe (h : FS W v0 w fb q g n base f p ae ac cp cr v E) (b : Bool) : FS W v0 (w.setCell ⟨fb, 1, none⟩ (.bool b)) fb q g n base f p b ac cp cr v E :=
  h.st 1 _ (by omega) (fun i hi => by match i, hi with | 0, _ => rfl | 1, _ => rfl | 2, _ => rfl | 3, _ => rfl)
theorem FS.setAc (h : FS W v0 w fb q g n base f p ae ac cp cr v E) (b : Bool) : FS W v0 (w.setCell ⟨fb, 2, none⟩ (.bool b)) fb q g n base f p ae b cp cr v E :=
  h.st 2 _ (by omega) (fun i hi => by match i, hi with | 0, _ => rfl | 1, _ => rfl | 2, _ => rfl | 3, _ => rfl)
theorem FS.setCp (h : FS W v0 w fb q g n base f p ae ac cp cr v E) (b : Bool) : FS W v0 (w.setCell ⟨fb, 3, none⟩ (.bool b)) fb q g n base f p ae ac b cr v E :=
  h.st 3 _ (by omega) (fun i hi => by match i, hi with | 0, _ => rfl | 1, _ => rfl | 2, _ => rfl | 3, _ => rfl)

/-- what the walk is told of the framer's cells -/
theorem FS.cells (h : FS W v0 w fb q g n base f p ae ac cp cr v E) :
    w.cell? ⟨fb, 0, none⟩ = some (.int .i64 p) ∧ w.cell? ⟨fb, 1, none⟩ = some (.bool ae) ∧ w.cell? ⟨fb, 2, none⟩ = some (.bool ac) ∧ w.cell? ⟨fb, 3, none⟩ = some (.bool cp) ∧
    w.frozen? ⟨fb, 0, none⟩ = false ∧ w.frozen? ⟨fb, 1, none⟩ = false ∧ w.frozen? ⟨fb, 2, none⟩ = false ∧ w.frozen? ⟨fb, 3, none⟩ = false ∧ fb < w.heap.size :=
  ⟨h.fr.cell (i := 0) (by omega), h.fr.cell (i := 1) (by omega), h.fr.cell (i := 2) (by omega), h.fr.cell (i := 3) (by omega), h.fr.frozen 0, h.fr.frozen 1, h.fr.frozen 2, h.fr.frozen 3, h.fr.lt⟩

/-- behind an append of one number -/
theorem FS.app (h : FS W v0 w fb q g n base f p ae ac cp cr v E) (o : Obj) {v' : Value} {w' : World} {x : Int}
    (hown : w'.ownsRow base 2 1 v' (E.length + 1) (ints E ++ [.int .i64 x])) (hg : (w.alloc o).grownBy w' v.ownBlock) (hloc : v'.ownBlock = v.ownBlock ∨ v'.ownBlock = some (w.alloc o).heap.size) :
    FS W v0 w' fb q g n base f p ae ac cp cr v' (E ++ [x]) := by
  have hblk : ∀ k, k < w.heap.size → v.ownBlock ≠ some k → w'.heap[k]? = w.heap[k]? := fun k hk hne => by
    rw [hg.block k (by simp; omega) (Ne.symm hne)]
    exact Below.heap_alloc w o k hk
  have hfb : v.ownBlock ≠ some fb := fun e => (h.ob fb e).1 rfl
  have hq : v.ownBlock ≠ some q := fun e => (h.ob q e).2.1 rfl
  have hgg : v.ownBlock ≠ some g := fun e => (h.ob g e).2.2 rfl
  have hsz : w.heap.size + 1 ≤ w'.heap.size := by have := hg.size; simpa using this
  have hfl := h.fr.lt
  have hgl := h.bys.lt
  have hql := h.ql
  have hWl := h.kept.size
  refine ⟨h.fr.of_block (hblk fb hfl hfb), h.bys.of_block (hblk g hgl hgg), ?_, ?_, ?_, h.fq, h.fg, h.qW, by omega, ?_, ?_, by have := h.bs; omega⟩
  · have hb := hblk q hql hq
    exact ⟨(World.cell?_of_block (a := ⟨q, 0, none⟩) hb).trans h.ce.1, (World.frozen?_of_block (a := ⟨q, 0, none⟩) hb).trans h.ce.2.1, h.ce.2.2⟩
  · have e1 : (E ++ [x]).length = E.length + 1 := by simp
    have e2 : ints (E ++ [x]) = ints E ++ [.int .i64 x] := by simp [ints]
    rw [e1, e2]; exact hown
  · intro k hk
    rcases hloc with hl | hl
    · rw [hl] at hk; exact h.ob k hk
    · rw [hl] at hk
      have := Option.some.inj hk
      simp at this
      omega
  · refine h.kept.trans hg.os hg.tape hg.output (by omega) (fun k hk hS => hblk k (by omega) (fun e => ?_))
    rcases h.vo with h1 | h1
    · exact hS (.inr (by rw [← h1]; exact e))
    · have := h1 k e; omega
  · rcases hloc with hl | hl
    · rw [hl]; exact h.vo
    · refine .inr fun k hk => ?_
      rw [hl] at hk
      have := Option.some.inj hk
      simp at this
      omega

/-- behind lineEnd -/
theorem FS.line (h : FS W v0 w fb q g n base f p ae ac cp cr v E) {w' : World} {c : Int} (hc : Cell w' q g c) (ho : Onl q w w') : FS W v0 w' fb q g n base f p ae ac cp c v E := by
  have hq : v.ownBlock ≠ some q := fun e => (h.ob q e).2.1 rfl
  refine ⟨ho.row h.fr h.fq, ho.row h.bys h.ce.2.2, hc, ?_, h.ob, h.fq, h.fg, h.qW, by rw [ho.size]; exact h.ql, ?_, h.vo, by rw [ho.size]; exact h.bs⟩
  · exact h.own.kept (row := some q) ⟨ho.os, ho.tape, ho.output, Nat.le_of_eq ho.size.symm, fun k _ hne => ho.block k (fun e => hne (by rw [e]))⟩ (.inr hq)
  · exact h.kept.trans ho.os ho.tape ho.output (Nat.le_of_eq ho.size.symm) (fun k hk _ => ho.block k (by have := h.qW; omega))
end

/-- the cache keeps its contract -/
def CRok (f : Nat → Nat) (n i : Nat) (c : Int) : Prop := c < i ∨ c = (c13 f n i : Nat)
theorem CRok.step {f : Nat → Nat} {n i : Nat} {c : Int} (h : CRok f n i c) (hi : i < n) : CRok f n (i + 1) c := by
  rcases h with h | h
  · exact .inl (by omega)
  · by_cases h13 : f i = 13
    · rw [c13_here (by omega) (fun _ => h13)] at h
      exact .inl (by omega)
    · exact .inr (by rw [h, c13_pass hi h13])
theorem CRok.next {f : Nat → Nat} {n i : Nat} (hi : i ≤ n) : CRok f n (cE f n i) (c13 f n i : Nat) := by
  refine .inr ?_
  have h1 := cE_ge f n i
  have h2 := cE_le (f := f) hi
  have h3 := c13_ge f n i
  have h4 := c13_le (f := f) hi
  have hle : cE f n i ≤ c13 f n i := by
    refine Nat.le_of_not_lt fun hlt => ?_
    by_cases hn : c13 f n i < n
    · have e := first_at (p := fun j => f j == 13) hn
      have e2 := (cE_not (f := f) (n := n) (i := i) (j := c13 f n i) h3 hlt).1
      exact e2 (by simpa [c13] using e)
    · omega
  rw [c13_is (i := cE f n i) (c := c13 f n i) hle h4 (fun j a b => ?_) (fun hn => ?_)]
  · have := first_before (p := fun j => f j == 13) (n := n) (i := i) (j := j) (by omega) b
    simpa using this
  · have e := first_at (p := fun j => f j == 13) hn
    simpa [c13] using e

end Go.Proofs.Qxb6602222a

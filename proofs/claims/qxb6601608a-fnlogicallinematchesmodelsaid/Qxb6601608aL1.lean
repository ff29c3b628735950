import Derived.Test.Qxb6601608aL0
import Derived.Test.Qxb6601608aN1
import Derived.Deep.RegionLaw
import Derived.Deep.AppendLies
import Derived.Lib.AppendStr
import Derived.Laws.IdiomStrings
import Derived.Deep.OwnRows
import Derived.Deep.QuietTactic
import Derived.BigQuiet
namespace Go.Proofs.Qxb6601608a
open Go.RowKit
theorem info51 : (Try.prog.info? 51).map (fun i => (i.zero, i.size, i.bytes)) = some (some (.agg #[.int .i64 0, .int .i64 0]), 2, 16) := by kernel_rfl
theorem info5 : (Try.prog.info? 5).map (fun i => (i.zero, i.size, i.bytes)) = some (some (.int .u8 0), 1, 1) := by kernel_rfl

/-- append of a string's bytes, as one step of a region that draws -/
theorem step_append_string {P : Program} (w : World) {ops : Array Oper} {o : Oper} {a : Act} {K : Act → World → Prop} {Q : Exit → Act → World → Prop} {E : Prop} (hgd : o.guard = none) (s x : Operand) (t u : TypeId)
    (ho : o.op = .call { callee := .builtin .append, args := #[s, x], argTypes := #[t, u] })
    (base : Nat) (e : TypeId) (i : TypeInfo) (ht : P.underlying t = some (.slice e)) (hu : P.underlying u = some .string) (hi : P.info? e = some i) (hz : i.zero = some (.int .u8 0)) (hsize : i.size = 1) (hby : i.bytes = 1)
    (v : Value) (n : Nat) (xs : List Value) (hs : a.eval s = v) (hown : w.ownsRow base e 1 v n xs) (str : ByteArray) (hx : a.eval x = .string str)
    (h63 : n + str.size ≤ maxLen) (hbytes : n + str.size ≤ 140737488355328) (hbase : base ≤ w.heap.size)
    (h : ∀ v' w', w'.ownsRow base e 1 v' (n + str.size) (xs ++ Lib.strCells str) → w.grownBy w' v.ownBlock → K (a.put o.dst v') w') :
    if Region.wanted o (yielded ops a.tmps) = true then Oper.wp P o a w K Q else E := by
  have hw : Region.wanted o (yielded ops a.tmps) = true := by simp [Region.wanted, hgd]
  rw [if_pos hw]
  obtain ⟨v', w', hr, h2, h3, _⟩ := Lib.run_append_own_string (P := P) w base t u o.type e i ht hu hi hz hsize hby v n xs hown str h63 hbytes hbase
  unfold Oper.wp execOp
  simp only [ho, resolve, invoke, builtin, Sem.run_bind, Sem.run_pure, Result.andThen_ok, List.map_toArray, List.map_cons, List.map_nil, hs, hx, hr]
  exact h v' w' h2 h3

/-- a parser's cells -/
def psr (s : ByteArray) (p : Nat) (vp vl x : Value) : Nat → Value
  | 0 => .string s
  | 1 => .int .i64 p
  | 2 => vp
  | 3 => vl
  | _ => x
def pcells (P : List (Nat × Nat)) : List Value := P.flatMap fun x => [.int .i64 x.1, .int .i64 x.2]
def bcells (l : List UInt8) : List Value := l.map fun b => .int .u8 b.toNat
structure LS (B : Nat) (W w : World) (b : Nat) (s : ByteArray) (p : Nat) (vp vl x : Value) (P : List (Nat × Nat)) (L : List UInt8) : Prop where
  row : w.rowIs b 46 5 (psr s p vp vl x)
  pa : w.ownsRow B 51 2 vp P.length (pcells P)
  li : w.ownsRow B 5 1 vl L.length (bcells L)
  bB : B ≤ b
  bel : Below B W w
  bW : B ≤ W.heap.size

theorem own_ne {w : World} {B t e size n m : Nat} {b : Nat} {f : Nat → Value} {v : Value} {xs : List Value} (hr : w.rowIs b t m f) (h : w.ownsRow B e size v n xs) (hne : t ≠ e) : v.ownBlock ≠ some b := by
  obtain ⟨c, h1, _⟩ := hr
  rcases h.2 with ⟨rfl, _⟩ | ⟨g, cap, cur, rfl, _, hg, _⟩
  · simp [Value.ownBlock]
  · intro hb
    obtain rfl : g = b := by simpa [Value.ownBlock] using hb
    rw [h1] at hg
    simp at hg
    exact hne hg.2

theorem own_block {w w' : World} {base e size : Nat} {v : Value} {n : Nat} {xs : List Value} (h : w.ownsRow base e size v n xs) (hb : ∀ k, v.ownBlock = some k → w'.heap[k]? = w.heap[k]?) : w'.ownsRow base e size v n xs := by
  obtain ⟨h1, h2⟩ := h
  refine ⟨h1, ?_⟩
  rcases h2 with h2 | ⟨g, cap, cur, rfl, h3, h4, h5⟩
  · exact .inl h2
  · exact .inr ⟨g, cap, cur, rfl, h3, (hb g rfl).trans h4, h5⟩
theorem own_ne2 {w : World} {B B' e e' size size' n n' : Nat} {v v' : Value} {xs xs' : List Value} (h : w.ownsRow B e size v n xs) (h' : w.ownsRow B' e' size' v' n' xs') (hne : e ≠ e') : ∀ k, v.ownBlock = some k → v'.ownBlock ≠ some k := by
  rcases h.2 with ⟨rfl, _⟩ | ⟨g, cap, cur, rfl, _, hg, _⟩
  · intro k hk; simp [Value.ownBlock] at hk
  · intro k hk hk'
    obtain rfl : g = k := by simpa [Value.ownBlock] using hk
    rcases h'.2 with ⟨rfl, _⟩ | ⟨g', cap', cur', rfl, _, hg', _⟩
    · simp [Value.ownBlock] at hk'
    · obtain rfl : g' = g := by simpa [Value.ownBlock] using hk'
      rw [hg] at hg'
      simp at hg'
      exact hne hg'.2

section
variable {B : Nat} {W w : World} {b : Nat} {s : ByteArray} {p : Nat} {vp vl x : Value} {P : List (Nat × Nat)} {L : List UInt8}
theorem LS.cells (h : LS B W w b s p vp vl x P L) :
    w.cell? ⟨b, 0, none⟩ = some (.string s) ∧ w.cell? ⟨b, 1, none⟩ = some (.int .i64 p) ∧ w.cell? ⟨b, 2, none⟩ = some vp ∧ w.cell? ⟨b, 3, none⟩ = some vl ∧
    w.frozen? ⟨b, 1, none⟩ = false ∧ w.frozen? ⟨b, 2, none⟩ = false ∧ w.frozen? ⟨b, 3, none⟩ = false ∧ b < w.heap.size :=
  ⟨h.row.cell (i := 0) (by omega), h.row.cell (i := 1) (by omega), h.row.cell (i := 2) (by omega), h.row.cell (i := 3) (by omega), h.row.frozen 1, h.row.frozen 2, h.row.frozen 3, h.row.lt⟩
theorem LS.keep (h : LS B W w b s p vp vl x P L) {w' : World} (hb : Below w.heap.size w w') : LS B W w' b s p vp vl x P L := by
  refine ⟨h.row.of_block (hb.block b h.row.lt), own_block h.pa (fun k hk => hb.block k (h.pa.lt k hk).2), own_block h.li (fun k hk => hb.block k (h.li.lt k hk).2), h.bB, h.bel.trans (hb.mono ?_), h.bW⟩
  exact Nat.le_trans h.bW h.bel.size
theorem LS.setPos (h : LS B W w b s p vp vl x P L) (q : Nat) : LS B W (w.setCell ⟨b, 1, none⟩ (.int .i64 q)) b s q vp vl x P L := by
  refine ⟨(h.row.set 1 _).congr (fun i hi => by match i, hi with | 0, _ => rfl | 1, _ => rfl | 2, _ => rfl | 3, _ => rfl | 4, _ => rfl), own_block h.pa (fun k hk => Below.heap_setCell _ _ _ _ ?_), own_block h.li (fun k hk => Below.heap_setCell _ _ _ _ ?_), h.bB, h.bel.setCell h.bB _, h.bW⟩
  · intro e; exact own_ne h.row h.pa (by decide) (by rw [hk]; exact congrArg some e)
  · intro e; exact own_ne h.row h.li (by decide) (by rw [hk]; exact congrArg some e)
/-- behind an append to the parts and the store of it -/
theorem LS.appP (h : LS B W w b s p vp vl x P L) {w1 : World} {vp' : Value} {y : Nat × Nat} (hown : w1.ownsRow B 51 2 vp' (P.length + 1) (pcells P ++ [.int .i64 y.1, .int .i64 y.2])) (hk : ∀ k, k < w.heap.size → some k ≠ vp.ownBlock → w1.heap[k]? = w.heap[k]?)
    (e1 : w1.os = w.os) (e2 : w1.tape = w.tape) (e3 : w1.output = w.output) (e4 : w.heap.size ≤ w1.heap.size) : LS B W (w1.setCell ⟨b, 2, none⟩ vp') b s p vp' vl x (P ++ [y]) L := by
  have hbw := Nat.le_trans h.bW h.bel.size
  have hrow1 : w1.rowIs b 46 5 (psr s p vp vl x) := h.row.of_block (hk b h.row.lt (Ne.symm (own_ne h.row h.pa (by decide))))
  have hli1 : w1.ownsRow B 5 1 vl L.length (bcells L) := own_block h.li (fun k hk' => hk k (h.li.lt k hk').2 (fun e => own_ne2 h.pa h.li (by decide) k e.symm hk'))
  have hbel : Below B w w1 := ⟨e1, e2, e3, e4, fun k hk' => hk k (by omega) (fun e => by have := (h.pa.lt k e.symm).1; omega)⟩
  refine ⟨(hrow1.set 2 _).congr (fun i hi => by match i, hi with | 0, _ => rfl | 1, _ => rfl | 2, _ => rfl | 3, _ => rfl | 4, _ => rfl), ?_, own_block hli1 (fun k hk => Below.heap_setCell _ _ _ _ ?_), h.bB, (h.bel.trans hbel).setCell h.bB _, h.bW⟩
  · rw [show (P ++ [y]).length = P.length + 1 by simp, show pcells (P ++ [y]) = pcells P ++ [.int .i64 y.1, .int .i64 y.2] by simp [pcells]]
    exact own_block hown (fun k hk => Below.heap_setCell _ _ _ _ (fun e => own_ne hrow1 hown (by decide) (by rw [hk]; exact congrArg some e)))
  · intro e; exact own_ne hrow1 hli1 (by decide) (by rw [hk]; exact congrArg some e)
/-- behind an append to the line and the store of it -/
theorem LS.appL (h : LS B W w b s p vp vl x P L) {w1 : World} {vl' : Value} {t : ByteArray} {L' : List UInt8} (hL : L' = L ++ t.data.toList) (hown : w1.ownsRow B 5 1 vl' (L.length + t.size) (bcells L ++ Lib.strCells t)) (hk : ∀ k, k < w.heap.size → some k ≠ vl.ownBlock → w1.heap[k]? = w.heap[k]?)
    (e1 : w1.os = w.os) (e2 : w1.tape = w.tape) (e3 : w1.output = w.output) (e4 : w.heap.size ≤ w1.heap.size) : LS B W (w1.setCell ⟨b, 3, none⟩ vl') b s p vp vl' x P L' := by
  subst hL
  have hbw := Nat.le_trans h.bW h.bel.size
  have hrow1 : w1.rowIs b 46 5 (psr s p vp vl x) := h.row.of_block (hk b h.row.lt (Ne.symm (own_ne h.row h.li (by decide))))
  have hpa1 : w1.ownsRow B 51 2 vp P.length (pcells P) := own_block h.pa (fun k hk' => hk k (h.pa.lt k hk').2 (fun e => own_ne2 h.li h.pa (by decide) k e.symm hk'))
  have hbel : Below B w w1 := ⟨e1, e2, e3, e4, fun k hk' => hk k (by omega) (fun e => by have := (h.li.lt k e.symm).1; omega)⟩
  refine ⟨(hrow1.set 3 _).congr (fun i hi => by match i, hi with | 0, _ => rfl | 1, _ => rfl | 2, _ => rfl | 3, _ => rfl | 4, _ => rfl), own_block hpa1 (fun k hk => Below.heap_setCell _ _ _ _ ?_), ?_, h.bB, (h.bel.trans hbel).setCell h.bB _, h.bW⟩
  · intro e; exact own_ne hrow1 hpa1 (by decide) (by rw [hk]; exact congrArg some e)
  · rw [show (L ++ t.data.toList).length = L.length + t.size by simp, show bcells (L ++ t.data.toList) = bcells L ++ Lib.strCells t by simp [bcells, Lib.strCells]]
    exact own_block hown (fun k hk => Below.heap_setCell _ _ _ _ (fun e => own_ne hrow1 hown (by decide) (by rw [hk]; exact congrArg some e)))
end
end Go.Proofs.Qxb6601608a

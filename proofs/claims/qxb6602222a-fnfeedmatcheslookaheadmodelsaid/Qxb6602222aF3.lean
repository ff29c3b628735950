import Derived.Test.Qxb6602222aF1
namespace Go.Proofs.Qxb6602222a
open Go.RowKit

/-- feedResult's cells -/
def mrw (v : Value) (p : Int) (ae ac cp : Bool) : Nat → Value
  | 0 => v
  | 1 => .int .i64 p
  | 2 => .bool ae
  | 3 => .bool ac
  | _ => .bool cp

set_option maxRecDepth 100000 in
set_option maxHeartbeats 2000000 in
theorem model_zero (p0 : Int) (ae ac cp : Bool) (a : Option Addr) (c : Nat) (w : World) (hp1 : -9223372036854775808 ≤ p0) (hp2 : p0 ≤ 9223372036854775807) :
    Calls Try.prog 21 #[.int .i64 p0, .bool ae, .bool ac, .bool cp, .slice a 0 c] w fun e w' => e = .returned (.agg #[.slice none 0 0, .int .i64 p0, .bool ae, .bool ac, .bool cp]) ∧ Below w.heap.size w w' := by
  go_enter Try.func21, Try.ntmps21
  go_wp2
  exact bodyPost_ret (v := .agg #[.slice none 0 0, .int .i64 p0, .bool ae, .bool ac, .bool cp]) (by simp [results, Try.results21, go_sem]) rfl ⟨rfl, ((Below.refl _ _).alloc (Nat.le_refl _) _).alloc (by simp) _⟩

structure MS (W w : World) (r o g n : Nat) (f : Nat → Nat) (p : Int) (ae ac cp : Bool) (vc v : Value) (E : List Int) : Prop where
  ro : w.rowIs o 35 5 (mrw vc p ae ac cp)
  rr : w.rowIs r 35 5 (mrw (.slice none 0 0) 0 false false false)
  bys : Bytes w g n f
  own : w.ownsRow W.heap.size 2 1 v E.length (ints E)
  ob : ∀ k, v.ownBlock = some k → k ≠ o ∧ k ≠ r ∧ k ≠ g
  nor : o ≠ r
  nog : o ≠ g
  nrg : r ≠ g
  bel : Below W.heap.size W w
  oW : W.heap.size ≤ o
  rW : W.heap.size ≤ r

section
variable {W w : World} {vc v : Value} {r o g n : Nat} {f : Nat → Nat} {p : Int} {ae ac cp : Bool} {E : List Int}
theorem MS.st (h : MS W w r o g n f p ae ac cp vc v E) (k : Nat) (u : Value) {p' : Int} {ae' ac' cp' : Bool} {vc' : Value} (hu : ∀ i, i < 5 → (if i = k then u else mrw vc p ae ac cp i) = mrw vc' p' ae' ac' cp' i) :
    MS W (w.setCell ⟨o, k, none⟩ u) r o g n f p' ae' ac' cp' vc' v E := by
  refine ⟨(h.ro.set k u).congr hu, h.rr.setOther (Ne.symm h.nor) u, h.bys.setOther (Ne.symm h.nog) u, own_set h.own _ u (fun e => (h.ob o e).1 rfl), h.ob, h.nor, h.nog, h.nrg, h.bel.setCell h.oW _, h.oW, h.rW⟩
theorem MS.setV (h : MS W w r o g n f p ae ac cp vc v E) (u : Value) : MS W (w.setCell ⟨o, 0, none⟩ u) r o g n f p ae ac cp u v E :=
  h.st 0 u (fun i hi => by match i, hi with | 0, _ => rfl | 1, _ => rfl | 2, _ => rfl | 3, _ => rfl | 4, _ => rfl)
theorem MS.setAe (h : MS W w r o g n f p ae ac cp vc v E) (b : Bool) : MS W (w.setCell ⟨o, 2, none⟩ (.bool b)) r o g n f p b ac cp vc v E :=
  h.st 2 _ (fun i hi => by match i, hi with | 0, _ => rfl | 1, _ => rfl | 2, _ => rfl | 3, _ => rfl | 4, _ => rfl)
theorem MS.setAc (h : MS W w r o g n f p ae ac cp vc v E) (b : Bool) : MS W (w.setCell ⟨o, 3, none⟩ (.bool b)) r o g n f p ae b cp vc v E :=
  h.st 3 _ (fun i hi => by match i, hi with | 0, _ => rfl | 1, _ => rfl | 2, _ => rfl | 3, _ => rfl | 4, _ => rfl)
theorem MS.setCp (h : MS W w r o g n f p ae ac cp vc v E) (b : Bool) : MS W (w.setCell ⟨o, 4, none⟩ (.bool b)) r o g n f p ae ac b vc v E :=
  h.st 4 _ (fun i hi => by match i, hi with | 0, _ => rfl | 1, _ => rfl | 2, _ => rfl | 3, _ => rfl | 4, _ => rfl)
theorem MS.cells (h : MS W w r o g n f p ae ac cp vc v E) :
    w.cell? ⟨o, 0, none⟩ = some vc ∧ w.cell? ⟨o, 1, none⟩ = some (.int .i64 p) ∧ w.cell? ⟨o, 2, none⟩ = some (.bool ae) ∧ w.cell? ⟨o, 3, none⟩ = some (.bool ac) ∧ w.cell? ⟨o, 4, none⟩ = some (.bool cp) ∧
    w.frozen? ⟨o, 0, none⟩ = false ∧ w.frozen? ⟨o, 1, none⟩ = false ∧ w.frozen? ⟨o, 2, none⟩ = false ∧ w.frozen? ⟨o, 3, none⟩ = false ∧ w.frozen? ⟨o, 4, none⟩ = false ∧ o < w.heap.size :=
  ⟨h.ro.cell (i := 0) (by omega), h.ro.cell (i := 1) (by omega), h.ro.cell (i := 2) (by omega), h.ro.cell (i := 3) (by omega), h.ro.cell (i := 4) (by omega), h.ro.frozen 0, h.ro.frozen 1, h.ro.frozen 2, h.ro.frozen 3, h.ro.frozen 4, h.ro.lt⟩
theorem MS.rcells (h : MS W w r o g n f p ae ac cp vc v E) :
    w.cell? ⟨r, 0, none⟩ = some (.slice none 0 0) ∧ w.cell? ⟨r, 1, none⟩ = some (.int .i64 0) ∧ w.cell? ⟨r, 2, none⟩ = some (.bool false) ∧ w.cell? ⟨r, 3, none⟩ = some (.bool false) ∧ w.cell? ⟨r, 4, none⟩ = some (.bool false) ∧
    w.frozen? ⟨r, 0, none⟩ = false ∧ w.frozen? ⟨r, 1, none⟩ = false ∧ w.frozen? ⟨r, 2, none⟩ = false ∧ w.frozen? ⟨r, 3, none⟩ = false ∧ w.frozen? ⟨r, 4, none⟩ = false ∧ r < w.heap.size :=
  ⟨h.rr.cell (i := 0) (by omega), h.rr.cell (i := 1) (by omega), h.rr.cell (i := 2) (by omega), h.rr.cell (i := 3) (by omega), h.rr.cell (i := 4) (by omega), h.rr.frozen 0, h.rr.frozen 1, h.rr.frozen 2, h.rr.frozen 3, h.rr.frozen 4, h.rr.lt⟩
theorem MS.app (h : MS W w r o g n f p ae ac cp vc v E) (ob : Obj) {v' : Value} {w' : World} {x : Int}
    (hown : w'.ownsRow W.heap.size 2 1 v' (E.length + 1) (ints E ++ [.int .i64 x])) (hg : (w.alloc ob).grownBy w' v.ownBlock) (hloc : v'.ownBlock = v.ownBlock ∨ v'.ownBlock = some (w.alloc ob).heap.size) :
    MS W w' r o g n f p ae ac cp vc v' (E ++ [x]) := by
  have hblk : ∀ k, k < w.heap.size → v.ownBlock ≠ some k → w'.heap[k]? = w.heap[k]? := fun k hk hne => by
    rw [hg.block k (by simp; omega) (Ne.symm hne)]
    exact Below.heap_alloc w ob k hk
  have h1 : v.ownBlock ≠ some o := fun e => (h.ob o e).1 rfl
  have h2 : v.ownBlock ≠ some r := fun e => (h.ob r e).2.1 rfl
  have h3 : v.ownBlock ≠ some g := fun e => (h.ob g e).2.2 rfl
  have hol := h.ro.lt
  have hrl := h.rr.lt
  have hgl := h.bys.lt
  have hWl := h.bel.size
  refine ⟨h.ro.of_block (hblk o hol h1), h.rr.of_block (hblk r hrl h2), h.bys.of_block (hblk g hgl h3), ?_, ?_, h.nor, h.nog, h.nrg, ?_, h.oW, h.rW⟩
  · have e1 : (E ++ [x]).length = E.length + 1 := by simp
    have e2 : ints (E ++ [x]) = ints E ++ [.int .i64 x] := by simp [ints]
    rw [e1, e2]; exact hown
  · intro k hk
    rcases hloc with hl | hl
    · rw [hl] at hk; exact h.ob k hk
    · rw [hl] at hk
      have := Option.some.inj hk
      simp at this
      omega
  · exact (h.bel.alloc hWl ob).grown hg (by simp; omega) (fun k hk => (h.own.lt k hk).1)
theorem MS.cast (h : MS W w r o g n f p ae ac cp vc v E) {p' : Int} {E' : List Int} (hp : p = p') (hE : E = E') : MS W w r o g n f p' ae ac cp vc v E' := hp ▸ hE ▸ h
end

theorem ms_new (W : World) (g n : Nat) (f : Nat → Nat) (p : Int) (hby : Bytes W g n f) :
    MS W ((W.alloc (.cells #[.slice none 0 0, .int .i64 0, .bool false, .bool false, .bool false] 35)).alloc (.cells #[.slice none 0 0, .int .i64 p, .bool false, .bool false, .bool false] 35)) W.heap.size (W.heap.size + 1) g n f p false false false (.slice none 0 0) (.slice none 0 0) [] := by
  have hgl := hby.lt
  refine ⟨?_, ?_, (hby.alloc _).alloc _, World.ownsRow_nil _ _ _ _, fun k hk => by simp [Value.ownBlock] at hk, by omega, by omega, by omega, ?_, by omega, by omega⟩
  · have := World.rowIs_alloc (W.alloc (.cells #[.slice none 0 0, .int .i64 0, .bool false, .bool false, .bool false] 35)) #[.slice none 0 0, .int .i64 p, .bool false, .bool false, .bool false] 35 (mrw (.slice none 0 0) p false false false) (fun i hi => by match i, hi with | 0, _ => rfl | 1, _ => rfl | 2, _ => rfl | 3, _ => rfl | 4, _ => rfl)
    simpa using this
  · exact (World.rowIs_alloc W #[.slice none 0 0, .int .i64 0, .bool false, .bool false, .bool false] 35 (mrw (.slice none 0 0) 0 false false false) (fun i hi => by match i, hi with | 0, _ => rfl | 1, _ => rfl | 2, _ => rfl | 3, _ => rfl | 4, _ => rfl)).alloc _
  · exact ((Below.refl _ _).alloc (Nat.le_refl _) _).alloc (by simp) _
end Go.Proofs.Qxb6602222a

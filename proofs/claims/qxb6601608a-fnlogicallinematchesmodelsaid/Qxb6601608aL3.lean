import Derived.Test.Qxb6601608aL2
import Derived.Test.Qxb6601608aLP
namespace Go.Proofs.Qxb6601608a
open Go.RowKit
theorem info3 : (Try.prog.info? 3).map (fun i => (i.zero, i.size, i.bytes)) = some (some (.int .i64 0), 1, 8) := by kernel_rfl

theorem copied {f : Nat → Int} {k : IntKind} {w : World} {b t n j : Nat} (h : w.rowIs b t n (fun i => if i < j then .int k (f i) else .int k 0)) : (w.setCell ⟨b, j, none⟩ (.int k (f j))).rowIs b t n (fun i => if i < j + 1 then .int k (f i) else .int k 0) :=
  (h.set j _).congr (fun i _ => by
    by_cases e : i = j
    · rw [if_pos e, if_pos (by omega), e]
    · rw [if_neg e]
      by_cases e2 : i < j
      · rw [if_pos e2, if_pos (by omega)]
      · rw [if_neg e2, if_neg (by omega)])
theorem row_ne {w : World} {b k t u n m : Nat} {f g : Nat → Value} (h : w.rowIs b t n f) (h' : w.rowIs k u m g) (hne : t ≠ u) : b ≠ k := by
  rintro rfl
  obtain ⟨c, h1, _⟩ := h
  obtain ⟨c', h2, _⟩ := h'
  rw [h1] at h2
  simp at h2
  exact hne h2.2
theorem LS.other {B : Nat} {W w : World} {b : Nat} {s : ByteArray} {p : Nat} {vp vl x : Value} {P : List (Nat × Nat)} {L : List UInt8} (h : LS B W w b s p vp vl x P L) {k n : Nat} {f : Nat → Value} (hr : w.rowIs k 3 n f) (hk : B ≤ k) (i : Nat) (v : Value) : LS B W (w.setCell ⟨k, i, none⟩ v) b s p vp vl x P L := by
  refine ⟨h.row.setOther (row_ne h.row hr (by decide)) _, own_block h.pa (fun k' hk' => Below.heap_setCell _ _ _ _ ?_), own_block h.li (fun k' hk' => Below.heap_setCell _ _ _ _ ?_), h.bB, h.bel.setCell hk _, h.bW⟩
  · intro e; exact own_ne hr h.pa (by decide) (by rw [hk']; exact congrArg some e)
  · intro e; exact own_ne hr h.li (by decide) (by rw [hk']; exact congrArg some e)
theorem pcells_at : ∀ (P : List (Nat × Nat)) (j : Nat), j < P.length → (pcells P)[j * 2]? = some (.int .i64 ((P.getD j (0, 0)).1 : Nat)) ∧ (pcells P)[j * 2 + 1]? = some (.int .i64 ((P.getD j (0, 0)).2 : Nat))
  | x :: P, 0, _ => ⟨rfl, rfl⟩
  | x :: P, j + 1, h => by
    have := pcells_at P j (by simpa using h)
    rw [show pcells (x :: P) = .int .i64 x.1 :: .int .i64 x.2 :: pcells P from rfl, show (j + 1) * 2 = j * 2 + 1 + 1 by omega]
    simpa using this
def plv (D : List (Nat × Nat)) (i : Nat) : Int := (off D i : Nat)
def psv (D : List (Nat × Nat)) (i : Nat) : Int := ((nth D i).1 : Nat)
structure ZS (B : Nat) (W w : World) (b gl gs : Nat) (s : ByteArray) (q : Nat) (vp vl x : Value) (D : List (Nat × Nat)) (j j' : Nat) : Prop where
  rl : w.rowIs gl 3 D.length (fun i => if i < j then .int .i64 (plv D i) else .int .i64 0)
  rs : w.rowIs gs 3 D.length (fun i => if i < j' then .int .i64 (psv D i) else .int .i64 0)
  ls : LS B W w b s q vp vl x (pcs 0 D) (room s D)
  ne : gl ≠ gs
  bl : W.heap.size ≤ gl
  bs : W.heap.size ≤ gs
theorem ZS.setL {B : Nat} {W w : World} {b gl gs : Nat} {s : ByteArray} {q : Nat} {vp vl x : Value} {D : List (Nat × Nat)} {j j' : Nat} (h : ZS B W w b gl gs s q vp vl x D j j') : ZS B W (w.setCell ⟨gl, j, none⟩ (.int .i64 (plv D j))) b gl gs s q vp vl x D (j + 1) j' :=
  ⟨copied h.rl, h.rs.setOther (Ne.symm h.ne) _, h.ls.other h.rl (Nat.le_trans h.ls.bW h.bl) _ _, h.ne, h.bl, h.bs⟩
theorem ZS.setS {B : Nat} {W w : World} {b gl gs : Nat} {s : ByteArray} {q : Nat} {vp vl x : Value} {D : List (Nat × Nat)} {j j' : Nat} (h : ZS B W w b gl gs s q vp vl x D j j') : ZS B W (w.setCell ⟨gs, j', none⟩ (.int .i64 (psv D j'))) b gl gs s q vp vl x D j (j' + 1) :=
  ⟨h.rl.setOther h.ne _, copied h.rs, h.ls.other h.rs (Nat.le_trans h.ls.bW h.bs) _ _, h.ne, h.bl, h.bs⟩

set_option maxRecDepth 100000 in
set_option maxHeartbeats 4000000 in
theorem zzLogicalLine_any (s : ByteArray) (p B : Nat) (vl : Value) (n0 : Nat) (xs0 : List Value) (w : World) (hs : s.size ≤ 1048576) (hp : p ≤ s.size) (hBw : B ≤ w.heap.size) (hli : w.ownsRow B 5 1 vl n0 xs0) :
    Calls Try.prog 23 #[.string s, .int .i64 p, vl] w fun e w' => ∃ D q gl gs vl', lls s (s.size + 1) p = (D, q) ∧ e = .returned (.tuple #[.string (joined s D), .int .i64 q, .slice (some ⟨gl, 0, none⟩) D.length D.length, .slice (some ⟨gs, 0, none⟩) D.length D.length, vl']) ∧
      w'.rowIs gl 3 D.length (fun i => .int .i64 (plv D i)) ∧ w'.rowIs gs 3 D.length (fun i => .int .i64 (psv D i)) ∧ w'.ownsRow B 5 1 vl' (room s D).length (bcells (room s D)) ∧ gl ≠ gs ∧ w.heap.size ≤ gl ∧ w.heap.size ≤ gs ∧ Below B w w' := by
  have hcall : ∀ x, Calls Try.prog 32 #[.pointer (some ⟨w.heap.size, 0, none⟩)] (w.alloc (.cells #[.string s, .int .i64 p, .slice none 0 0, vl, x] 46)) fun e w' => ∃ D q vp vl', lls s (s.size + 1) p = (D, q) ∧ e = .returned (.string (joined s D)) ∧ LS B w w' w.heap.size s q vp vl' x (pcs 0 D) (room s D) := fun x => by
    refine (logicalLine_any s w.heap.size p B vl x n0 xs0 _ hs hp hBw (by simp; omega) (World.rowIs_alloc w _ 46 _ (fun i hi => by match i, hi with | 0, _ => rfl | 1, _ => rfl | 2, _ => rfl | 3, _ => rfl | 4, _ => rfl)) (hli.alloc _)).mono ?_
    rintro e w' ⟨D, q, vp, vl', h1, h2, h3⟩
    have hG := lls_good s (s.size + 1) p hp (by omega)
    rw [h1] at hG
    rw [joined_one hG] at h2
    exact ⟨D, q, vp, vl', h1, h2, h3.row, h3.pa, h3.li, h3.bB, ((Below.refl _ _).alloc hBw _).trans h3.bel, hBw⟩
  obtain ⟨al, cl, rfl⟩ := own_shape hli
  have HC := hide hcall
  clear hcall hli
  go_enter Try.func23, Try.ntmps23
  go_upto_region 3 with (go_at_call 32; refine (HC.out _).mono ?_; rintro e w1 ⟨D, q, vp, vl1, hll, rfl, hLS⟩; have HLL := hide hll; have HL := hide hLS; clear hll hLS)
  have hG := lls_good s (s.size + 1) p hp (by omega)
  have hlen := lls_len_le s (s.size + 1) p
  rw [HLL.out] at hG hlen
  simp only at hlen hG
  have hne := hG.ne
  have hpl := pcs_length D 0
  have HG := hide hG
  have HPL := hide hpl
  obtain ⟨gp, cp, rfl⟩ : ∃ g c, vp = .slice (some ⟨g, 0, none⟩) D.length c := by
    rcases HL.out.pa.2 with ⟨_, h0⟩ | ⟨g, cap, _, h0, _⟩
    · omega
    · rw [hpl] at h0; exact ⟨g, cap, h0⟩
  clear hG hpl HC
  obtain ⟨x0, x1, x2, x3, y1, y2, y3, hlt⟩ := HL.out.cells
  have hmk := run_make_row' (P := Try.prog) 37 3 (.int .i64 0) 8 Try.underlying37 info3 rfl .i64 .i64 D.length (by omega) (by omega)
  have hZ : ZS B w ((w1.alloc (.cells (madeCells #[.int .i64 0] D.length) 3)).alloc (.cells (madeCells #[.int .i64 0] D.length) 3)) w.heap.size w1.heap.size (w1.heap.size + 1) s q (.slice (some ⟨gp, 0, none⟩) D.length cp) vl1 (.slice none 0 0) D 0 0 := by
    have h2 := World.rowIs_made (w1.alloc (.cells (madeCells #[.int .i64 0] D.length) 3)) (.int .i64 0) D.length 3
    rw [show (w1.alloc (.cells (madeCells #[.int .i64 0] D.length) 3)).heap.size = w1.heap.size + 1 by simp] at h2
    have h3 := HL.out.bel.size
    exact ⟨((World.rowIs_made w1 (.int .i64 0) D.length 3).alloc _).congr (fun i _ => by rw [if_neg (by omega)]), h2.congr (fun i _ => by rw [if_neg (by omega)]), HL.out.keep (((Below.refl _ _).alloc (Nat.le_refl _) _).alloc (by simp) _), by omega, h3, by omega⟩
  have HZ := hide hZ
  clear hZ
  go_wp2
  clear hmk x0 x1 x2 x3 y1 y2 y3 hlt HL
  obtain ⟨W2, hW2⟩ : ∃ W2, W2 = ((w1.alloc (.cells (madeCells #[.int .i64 0] D.length) 3)).alloc (.cells (madeCells #[.int .i64 0] D.length) 3)) := ⟨_, rfl⟩
  rw [← hW2] at HZ
  rw [← hW2]
  clear hW2
  go_loopg [15] D.length (fun g t wx => ∃ j : Nat, j + g = D.length ∧ t = .int .i64 j ∧ ZS B w wx w.heap.size w1.heap.size (w1.heap.size + 1) s q (.slice (some ⟨gp, 0, none⟩) D.length cp) vl1 (.slice none 0 0) D j j)
  case atStart => exact ⟨0, by omega, rfl, HZ.out⟩
  case round =>
    obtain ⟨j, hj, rfl, hz⟩ := hrel
    have HZ1 := hide hz
    clear hz
    obtain ⟨x0, x1, x2, x3, y1, y2, y3, hlt⟩ := HZ1.out.ls.cells
    by_cases hjn : j < D.length
    · have hpn := pcs_nth D 0 j hjn
      have hpc := pcells_at (pcs 0 D) j (by rw [HPL.out]; exact hjn)
      rw [hpn, Nat.zero_add] at hpc
      have hown : wr.ownsRow B 51 2 (.slice (some ⟨gp, 0, none⟩) D.length cp) D.length (pcells (pcs 0 D)) := by have h := HZ1.out.ls.pa; rw [HPL.out] at h; exact h
      have c1 : wr.cell? ⟨gp, j * 2, none⟩ = some (.int .i64 (plv D j)) := (hown.cellAt (j * 2) (by omega)).trans hpc.1
      have c2 : wr.cell? ⟨gp, j * 2 + 1, none⟩ = some (.int .i64 (psv D j)) := (hown.cellAt (j * 2 + 1) (by omega)).trans hpc.2
      clear hpn hpc hown
      have c3 := HZ1.out.rl.cell hjn
      have c4 := HZ1.out.rl.frozen j
      simp only [Nat.lt_irrefl, if_false] at c3
      go_upto_region 9 with (fail)
      obtain ⟨W3, hW3⟩ : ∃ W3, W3 = wr.setCell ⟨w1.heap.size, j, none⟩ (.int .i64 (plv D j)) := ⟨_, rfl⟩
      rw [← hW3]
      have HZ2 : Hid (ZS B w W3 w.heap.size w1.heap.size (w1.heap.size + 1) s q (.slice (some ⟨gp, 0, none⟩) D.length cp) vl1 (.slice none 0 0) D (j + 1) j) := by rw [hW3]; exact HZ1.out.setL
      clear hW3 HZ1 x0 x1 x2 x3 y1 y2 y3 hlt c1 c2 c3 c4
      obtain ⟨x0, x1, x2, x3, y1, y2, y3, hlt⟩ := HZ2.out.ls.cells
      have hpn := pcs_nth D 0 j hjn
      have hpc := pcells_at (pcs 0 D) j (by rw [HPL.out]; exact hjn)
      rw [hpn, Nat.zero_add] at hpc
      have hown : W3.ownsRow B 51 2 (.slice (some ⟨gp, 0, none⟩) D.length cp) D.length (pcells (pcs 0 D)) := by have h := HZ2.out.ls.pa; rw [HPL.out] at h; exact h
      have c2 : W3.cell? ⟨gp, j * 2 + 1, none⟩ = some (.int .i64 (psv D j)) := (hown.cellAt (j * 2 + 1) (by omega)).trans hpc.2
      clear hpn hpc hown
      have c3 := HZ2.out.rs.cell hjn
      have c4 := HZ2.out.rs.frozen j
      simp only [Nat.lt_irrefl, if_false] at c3
      go_wp2
      go_roundg (D.length - (j + 1))
      case measure => omega
      case rel => exact ⟨j + 1, by omega, by go_num, HZ2.out.setS⟩
    · obtain rfl : j = D.length := by omega
      have hown := HZ1.out.ls.li
      obtain ⟨a2, c2, rfl⟩ := own_shape hown
      have hr1 := HZ1.out.rl.congr (g := fun i => .int .i64 (plv D i)) (fun i hi => by rw [if_pos hi])
      have hr2 := HZ1.out.rs.congr (g := fun i => .int .i64 (psv D i)) (fun i hi => by rw [if_pos hi])
      have HR1 := hide hr1
      have HR2 := hide hr2
      have HO := hide hown
      clear hr1 hr2 hown
      go_upto_region 10 with (fail)
      go_quiet (fail)
      go_wp2
      refine bodyPost_ret (v := .tuple #[.string (joined s D), .int .i64 q, .slice (some ⟨w1.heap.size, 0, none⟩) D.length D.length, .slice (some ⟨w1.heap.size + 1, 0, none⟩) D.length D.length, .slice a2 (room s D).length c2]) (by simp [results, Try.results23, go_sem]) rfl ⟨D, q, w1.heap.size, w1.heap.size + 1, _, HLL.out, rfl, ?_, ?_, ?_, by omega, HZ1.out.bl, HZ1.out.bs, ?_⟩
      · exact HR1.out.of_block rfl
      · exact HR2.out.of_block rfl
      · exact own_block HO.out (fun _ _ => rfl)
      · exact below_drewN HZ1.out.ls.bel _
end Go.Proofs.Qxb6601608a

import Derived.Test.Qxb6601608aL6
import Derived.Deep.CutBlock
namespace Go.Proofs.Qxb6601608a
open Go.RowKit
theorem ints_at {l : List Nat} {i : Nat} (h : i < l.length) : (ints l)[i]? = some (.int .i64 ((l.getD i 0 : Nat))) := by
  simp [ints, h]
/-- an owned row of numbers, not empty: its block and cells -/
theorem own_cells {w : World} {base : Nat} {v : Value} {l : List Nat} (hl : 0 < l.length) (h : w.ownsRow base 3 1 v l.length (ints l)) : ∃ g c, v = .slice (some ⟨g, 0, none⟩) l.length c ∧ g < w.heap.size ∧ ∀ i, i < l.length → w.cell? ⟨g, i, none⟩ = some (.int .i64 ((l.getD i 0 : Nat))) := by
  rcases h.2 with ⟨_, h0⟩ | ⟨g, cap, cur, rfl, _⟩
  · omega
  · exact ⟨g, cap, rfl, (h.lt g rfl).2, fun i hi => (h.cellAt i (by omega)).trans (ints_at hi)⟩
theorem st1_at (T : List (Nat × Nat × Nat)) (i : Nat) : (st1 T).getD i 0 = (tn T i).1 := by
  simp only [st1, tn, List.getD_eq_getElem?_getD, List.getElem?_map]
  cases T[i]? <;> rfl
theorem st2_at (T : List (Nat × Nat × Nat)) (i : Nat) : (st2 T).getD i 0 = (tn T i).2.1 := by
  simp only [st2, tn, List.getD_eq_getElem?_getD, List.getElem?_map]
  cases T[i]? <;> rfl
theorem st3_at (T : List (Nat × Nat × Nat)) (i : Nat) : (st3 T).getD i 0 = (tn T i).2.2 := by
  simp only [st3, tn, List.getD_eq_getElem?_getD, List.getElem?_map]
  cases T[i]? <;> rfl
/-- what CutLines hands over -/
structure Cut (w : World) (g1 g2 g3 : Nat) (T : List (Nat × Nat × Nat)) : Prop where
  s1 : ∀ i, i < T.length → w.cell? ⟨g1, i, none⟩ = some (.int .i64 ((tn T i).1 : Nat))
  s2 : ∀ i, i < T.length → w.cell? ⟨g2, i, none⟩ = some (.int .i64 ((tn T i).2.1 : Nat))
  s3 : ∀ i, i < T.length → w.cell? ⟨g3, i, none⟩ = some (.int .i64 ((tn T i).2.2 : Nat))
  l1 : g1 < w.heap.size
  l2 : g2 < w.heap.size
  l3 : g3 < w.heap.size
theorem cutLines_cut (s : ByteArray) (p : Nat) (w : World) (hs : s.size ≤ 1048576) (hp : p ≤ s.size) :
    Calls Try.prog 33 #[.string s, .int .i64 p] w fun e w' => ∃ T g1 g2 g3 c1 c2 c3, cutL s (s.size + 1) p = T ∧ e = .returned (.tuple #[.slice (some ⟨g1, 0, none⟩) T.length c1, .slice (some ⟨g2, 0, none⟩) T.length c2, .slice (some ⟨g3, 0, none⟩) T.length c3]) ∧ Cut w' g1 g2 g3 T ∧ Below w.heap.size w w' := by
  refine (cutLines_any s p w hs hp).mono ?_
  rintro e w' ⟨a, b, c, rfl, h⟩
  obtain ⟨T, hT⟩ : ∃ T, cutL s (s.size + 1) p = T := ⟨_, rfl⟩
  have hn : 0 < T.length := by rw [← hT, cutL]; simp
  rw [hT] at h
  have n1 : (st1 T).length = T.length := by simp [st1]
  have n2 : (st2 T).length = T.length := by simp [st2]
  have n3 : (st3 T).length = T.length := by simp [st3]
  obtain ⟨g1, c1, rfl, l1, f1⟩ := own_cells (by omega) h.ra
  obtain ⟨g2, c2, rfl, l2, f2⟩ := own_cells (by omega) h.rb
  obtain ⟨g3, c3, rfl, l3, f3⟩ := own_cells (by omega) h.rc
  refine ⟨T, g1, g2, g3, c1, c2, c3, hT, by rw [n1, n2, n3], ⟨fun i hi => ?_, fun i hi => ?_, fun i hi => ?_, l1, l2, l3⟩, h.bel⟩
  · rw [f1 i (by omega), st1_at]
  · rw [f2 i (by omega), st2_at]
  · rw [f3 i (by omega), st3_at]
theorem Cut.keep {w w' : World} {g1 g2 g3 : Nat} {T : List (Nat × Nat × Nat)} (h : Cut w g1 g2 g3 T) (hb : Below w.heap.size w w') : Cut w' g1 g2 g3 T :=
  ⟨fun i hi => (hb.cell (p := ⟨g1, i, none⟩) h.l1).trans (h.s1 i hi), fun i hi => (hb.cell (p := ⟨g2, i, none⟩) h.l2).trans (h.s2 i hi), fun i hi => (hb.cell (p := ⟨g3, i, none⟩) h.l3).trans (h.s3 i hi), Nat.lt_of_lt_of_le h.l1 hb.size, Nat.lt_of_lt_of_le h.l2 hb.size, Nat.lt_of_lt_of_le h.l3 hb.size⟩

/-- the model's second loop -/
structure M2 (W w : World) (s : ByteArray) (H G n : Nat) (D : List (Nat × Nat)) (vo : Value) (i j k : Nat) : Prop where
  cs : w.rowIs H 3 n (fun x => if x < D.length then .int .i64 (psv D x) else .int .i64 0)
  pl : w.rowIs G 3 D.length (fun x => if x < i then .int .i64 (plv D x) else .int .i64 0)
  ps : w.rowIs (G + 1) 3 D.length (fun x => if x < j then .int .i64 (psv D x) else .int .i64 0)
  out : w.ownsRow W.heap.size 5 1 vo (off D k) (bcells (cat s (D.take k)))
  hG : H < G
  bH : W.heap.size ≤ H
  bel : Below W.heap.size W w
section
variable {W w : World} {s : ByteArray} {H G n : Nat} {D : List (Nat × Nat)} {vo : Value} {i j k : Nat}
theorem M2.setPl (h : M2 W w s H G n D vo i j k) : M2 W (w.setCell ⟨G, i, none⟩ (.int .i64 (plv D i))) s H G n D vo (i + 1) j k := by
  have h1 := h.hG
  have h2 := h.bH
  refine ⟨h.cs.setOther (by show H ≠ G; omega) _, copied h.pl, h.ps.setOther (by show G + 1 ≠ G; omega) _, own_block h.out (fun x hx => Below.heap_setCell _ _ _ _ ?_), h.hG, h.bH, h.bel.setCell (by show W.heap.size ≤ G; omega) _⟩
  intro e; exact own_ne h.pl h.out (by decide) (by rw [hx]; exact congrArg some e)
theorem M2.setPs (h : M2 W w s H G n D vo i j k) : M2 W (w.setCell ⟨G + 1, j, none⟩ (.int .i64 (psv D j))) s H G n D vo i (j + 1) k := by
  have h1 := h.hG
  have h2 := h.bH
  refine ⟨h.cs.setOther (by show H ≠ G + 1; omega) _, h.pl.setOther (by show G ≠ G + 1; omega) _, copied h.ps, own_block h.out (fun x hx => Below.heap_setCell _ _ _ _ ?_), h.hG, h.bH, h.bel.setCell (by show W.heap.size ≤ G + 1; omega) _⟩
  intro e; exact own_ne h.ps h.out (by decide) (by rw [hx]; exact congrArg some e)
theorem M2.app (h : M2 W w s H G n D vo i j k) (hk : k < D.length) (hf : (nth D k).2 ≤ s.size) {w' : World} {v' : Value} (hown : w'.ownsRow W.heap.size 5 1 v' (off D k + (s.extract (nth D k).1 (nth D k).2).size) (bcells (cat s (D.take k)) ++ Lib.strCells (s.extract (nth D k).1 (nth D k).2))) (hg : w.grownBy w' vo.ownBlock) : M2 W w' s H G n D v' i j (k + 1) := by
  have hblk : ∀ {b m : Nat} {f : Nat → Value}, w.rowIs b 3 m f → w'.rowIs b 3 m f := fun {b m f} hr => hr.of_block (hg.block b hr.lt (Ne.symm (own_ne hr h.out (by decide))))
  refine ⟨hblk h.cs, hblk h.pl, hblk h.ps, ?_, h.hG, h.bH, h.bel.trans ⟨hg.os, hg.tape, hg.output, hg.size, fun x hx => hg.block x (Nat.lt_of_lt_of_le hx h.bel.size) (fun e => by have := (h.out.lt x e.symm).1; omega)⟩⟩
  have e1 : off D (k + 1) = off D k + (s.extract (nth D k).1 (nth D k).2).size := by rw [off_succ D k hk, size_extract _ _ _ hf]
  have e2 : D.take (k + 1) = D.take k ++ [nth D k] := by
    rw [List.take_add_one]
    simp [nth, hk]
  have e3 : bcells (cat s (D.take (k + 1))) = bcells (cat s (D.take k)) ++ Lib.strCells (s.extract (nth D k).1 (nth D k).2) := by
    rw [e2, cat_snoc]; simp [bcells, Lib.strCells, seg]
  rw [e1, e3]
  exact hown
end

set_option maxRecDepth 100000 in
set_option maxHeartbeats 4000000 in
theorem modelLL_any (s : ByteArray) (p : Nat) (D : List (Nat × Nat)) (q : Nat) (w : World) (hs : s.size ≤ 1048576) (hp : p ≤ s.size) (hD : lls s (s.size + 1) p = (D, q)) :
    Calls Try.prog 24 #[.string s, .int .i64 p] w fun e w' => ∃ gl gs, e = .returned (.tuple #[.string (joined s D), .int .i64 q, .slice (some ⟨gl, 0, none⟩) D.length D.length, .slice (some ⟨gs, 0, none⟩) D.length D.length]) ∧
      w'.rowIs gl 3 D.length (fun i => .int .i64 (plv D i)) ∧ w'.rowIs gs 3 D.length (fun i => .int .i64 (psv D i)) ∧ Below w.heap.size w w' := by
  have hs' : s.size ≤ maxLen := by unfold maxLen; omega
  have HS' := hide hs'
  clear hs'
  have HC := hide (cutLines_cut s p w hs hp)
  have hG := lls_good s (s.size + 1) p hp (by omega)
  have hM := mod_of s p hp
  have hdl := lls_len_le s (s.size + 1) p
  have hcl := cutL_len s (s.size + 1) p
  have hch := cutL_head s s.size p
  rw [hD] at hG hM hdl
  simp only at hG hM hdl
  have HG := hide hG
  clear hG hD
  go_enter Try.func24, Try.ntmps24
  go_upto_region 3 with (go_at_call 33; refine HC.out.mono ?_; rintro e w1 ⟨T, g1, g2, g3, c1, c2, c3, hT, rfl, hCut, hb1⟩; rw [hT] at hM hcl hch; have HM := hide hM; have HT := hide hch; have HCT := hide hCut; have HB1 := hide hb1; clear hM hCut hb1 hT hch)
  clear HC
  have hne := HM.out.ne
  have hlen := HM.out.len
  obtain ⟨K, hK⟩ : ∃ K, D.length = K + 1 := ⟨D.length - 1, by omega⟩
  have HK := hide hK
  have hmk := run_make_row' (P := Try.prog) 37 3 (.int .i64 0) 8 Try.underlying37 info3 rfl .i64 .i64 T.length (by omega) (by omega)
  go_upto_block 0 with (fail)
  clear hmk
  go_cut [13] (fun t13 wc => t13 = .int .i64 (K : Nat) ∧ wc.rowIs w1.heap.size 3 T.length (fun j => if j < D.length then .int .i64 (psv D j) else .int .i64 0) ∧ Below w1.heap.size w1 wc)
  case first =>
    go_wp2_with (fail)
    go_loopg [13, 14, 15] D.length (fun g t13 t14 _ wx => ∃ i : Nat, i + g = D.length ∧ 0 < g ∧ t13 = .int .i64 ((T.length : Int) - 1) ∧ t14 = .int .i64 i ∧ wx.rowIs w1.heap.size 3 T.length (fun j => if j < i then .int .i64 (psv D j) else .int .i64 0) ∧ Below w1.heap.size w1 wx)
    case atStart => exact ⟨0, by omega, hne, rfl, rfl, (World.rowIs_made w1 (.int .i64 0) T.length 3).congr (fun i _ => by rw [if_neg (by omega)]), (Below.refl _ _).alloc (Nat.le_refl _) _⟩
    case round =>
      obtain ⟨i, hi, hg0, rfl, rfl, hrow, hbel⟩ := hrel
      have HR := hide hrow
      have HB := hide hbel
      clear hrow hbel
      have hiD : i < D.length := by omega
      have hiT : i < T.length := by omega
      obtain ⟨x, hx⟩ : ∃ x, (tn T i).1 = x := ⟨_, rfl⟩
      obtain ⟨e, he⟩ : ∃ e, (tn T i).2.1 = e := ⟨_, rfl⟩
      obtain ⟨st, hst⟩ : ∃ st, (nth D i).1 = st := ⟨_, rfl⟩
      obtain ⟨hin1, hin2, hin3⟩ := HM.out.inn i hiD
      rw [hx, he] at hin1
      rw [he] at hin2
      rw [hst, he] at hin3
      have k1 : wr.cell? ⟨g1, i, none⟩ = some (.int .i64 (x : Nat)) := by rw [← hx]; exact (HCT.out.keep HB.out).s1 i hiT
      have k2 : wr.cell? ⟨g2, i, none⟩ = some (.int .i64 (e : Nat)) := by rw [← he]; exact (HCT.out.keep HB.out).s2 i hiT
      have HX := hide hx
      have HE := hide he
      have HST := hide hst
      have HCS := hide (fun wx => contentStart_any s x e wx HS'.out hin1 hin2)
      have HOD := hide (fun wx => oddBackslashes_any s st e wx HS'.out hin3 hin2)
      clear hx he hst
      go_upto_if 44 with (fail)
      go_cut [15] (fun t15 wd => t15 = .int .i64 (st : Nat) ∧ ∃ nn, wd = wr.drewN nn)
      case first =>
        by_cases hi0 : i = 0
        · subst hi0
          have hxs : x = st := by rw [← HX.out, HT.out, ← HST.out, HM.out.fst]
          subst hxs
          go_wp2
          go_meet
          exact ⟨rfl, 0, rfl⟩
        · have hsk : skipTo s e x = st := by
            obtain ⟨i', rfl⟩ : ∃ i', i = i' + 1 := ⟨i - 1, by omega⟩
            rw [← HX.out, ← HE.out, ← HST.out]; exact HM.out.nxt i' hiD
          rw [hsk] at HCS
          have hi1 : (0 : Int) < (i : Int) := by omega
          clear hsk
          go_upto_region 10 with (fail)
          go_quiet ((go_at_call 34; exact Calls.quiet_of_same (HCS.out _)))
          go_wp2
          go_meet
          exact ⟨rfl, _, rfl⟩
      case rest =>
        obtain ⟨rfl, nn, rfl⟩ := hcut
        obtain ⟨W3, hW3⟩ : ∃ W3, W3 = wr.drewN nn := ⟨_, rfl⟩
        rw [← hW3]
        have HR3 : Hid (W3.rowIs w1.heap.size 3 T.length (fun j => if j < i then .int .i64 (psv D j) else .int .i64 0)) := by rw [hW3]; exact HR.out.of_block rfl
        have HB3 : Hid (Below w1.heap.size w1 W3) := by rw [hW3]; exact below_drewN HB.out _
        clear hW3 HR HB k1 k2
        have k2 : W3.cell? ⟨g2, i, none⟩ = some (.int .i64 (e : Nat)) := by rw [← HE.out]; exact (HCT.out.keep HB3.out).s2 i hiT
        have k3 := HR3.out.cell hiT
        have k4 := HR3.out.frozen i
        simp only [Nat.lt_irrefl, if_false] at k3
        have hpv : psv D i = (st : Int) := by rw [psv, HST.out]
        have HR4 : Hid ((W3.setCell ⟨w1.heap.size, i, none⟩ (.int .i64 (st : Nat))).rowIs w1.heap.size 3 T.length (fun j => if j < i + 1 then .int .i64 (psv D j) else .int .i64 0)) := by
          have h := copied (f := psv D) HR3.out
          rw [hpv] at h
          exact hide h
        have HB4 : Hid (Below w1.heap.size w1 (W3.setCell ⟨w1.heap.size, i, none⟩ (.int .i64 (st : Nat)))) := hide (HB3.out.setCell (Nat.le_refl _) _)
        have k5 : (W3.setCell ⟨w1.heap.size, i, none⟩ (.int .i64 (st : Nat))).cell? ⟨g2, i, none⟩ = some (.int .i64 (e : Nat)) := by rw [← HE.out]; exact (HCT.out.keep HB4.out).s2 i hiT
        clear hpv HR3 HB3
        by_cases hl : i + 1 < D.length
        · have hodd := HM.out.odd i hl
          rw [HST.out, HE.out] at hodd
          rw [decide_eq_true hodd] at HOD
          clear hodd
          go_wp2_with (go_at_call 35; refine (HOD.out _).mono ?_; rintro e' w' ⟨rfl, hw⟩; obtain rfl := hw.symm)
          go_roundg (D.length - (i + 1))
          case measure => omega
          case rel => exact ⟨i + 1, by omega, by omega, rfl, by go_num, HR4.out, HB4.out⟩
        · have hlD : D.length = i + 1 := by omega
          have hevn := HM.out.evn i (by omega)
          rw [HST.out, HE.out] at hevn
          rw [decide_eq_false hevn] at HOD
          clear hevn
          rw [← hlD] at HR4
          obtain rfl : i = K := by omega
          clear hK
          go_wp2_with (go_at_call 35; refine (HOD.out _).mono ?_; rintro e' w' ⟨rfl, hw⟩; obtain rfl := hw.symm)
          go_meet
          exact ⟨rfl, HR4.out, HB4.out⟩
  case rest =>
    obtain ⟨rfl, hrow, hbel⟩ := hcut
    have HR := hide hrow
    have HB := hide hbel
    clear hrow hbel
    obtain ⟨cc, hcc⟩ : ∃ cc : Nat, s.size - p = cc := ⟨_, rfl⟩
    obtain ⟨i5, hi5, hz0, hz1, hz2⟩ := info_parts info5
    have hmk0 : ∀ wx, (Instr.makeSlice 28 (.int .i64 0) (.int .i64 ((s.size : Int) - (p : Int)))).run Try.prog wx = .ok (.slice (some ⟨wx.heap.size, 0, none⟩) 0 cc) (wx.alloc (.cells (madeCells #[.int .u8 0] cc) 5)) := fun wx => by
      have h := run_make (P := Try.prog) wx 28 5 i5 (.int .u8 0) Try.underlying28 hi5 hz0 .i64 .i64 0 ((s.size : Int) - (p : Int)) (by omega) (by omega) (by rw [hz2]; omega) (by omega)
      rw [h, hz1, show ((s.size : Int) - (p : Int)).toNat = cc by omega, Nat.mul_one]
      rfl
    have hmk2 : ∀ wx, (Instr.makeSlice 37 (.int .i64 ((K : Int) + 1)) (.int .i64 ((K : Int) + 1))).run Try.prog wx = .ok (.slice (some ⟨wx.heap.size, 0, none⟩) (K + 1) (K + 1)) (wx.alloc (.cells (madeCells #[.int .i64 0] (K + 1)) 3)) := fun wx => by
      have h := run_make_row' (P := Try.prog) 37 3 (.int .i64 0) 8 Try.underlying37 info3 rfl .i64 .i64 (K + 1) (by omega) (by omega) wx
      simpa using h
    have hM0 : M2 w1 (((wc.alloc (.cells (madeCells #[.int .u8 0] cc) 5)).alloc (.cells (madeCells #[.int .i64 0] (K + 1)) 3)).alloc (.cells (madeCells #[.int .i64 0] (K + 1)) 3)) s w1.heap.size (wc.heap.size + 1) T.length D (.slice (some ⟨wc.heap.size, 0, none⟩) 0 cc) 0 0 0 := by
      have hlt := HR.out.lt
      have h2 := World.rowIs_made (wc.alloc (.cells (madeCells #[.int .u8 0] cc) 5)) (.int .i64 0) (K + 1) 3
      have h3 := World.rowIs_made ((wc.alloc (.cells (madeCells #[.int .u8 0] cc) 5)).alloc (.cells (madeCells #[.int .i64 0] (K + 1)) 3)) (.int .i64 0) (K + 1) 3
      rw [show (wc.alloc (.cells (madeCells #[.int .u8 0] cc) 5)).heap.size = wc.heap.size + 1 by simp] at h2
      rw [show ((wc.alloc (.cells (madeCells #[.int .u8 0] cc) 5)).alloc (.cells (madeCells #[.int .i64 0] (K + 1)) 3)).heap.size = wc.heap.size + 1 + 1 by simp] at h3
      have h4 := World.ownsRow_made (base := w1.heap.size) (e := 5) (size := 1) wc (madeCells #[.int .u8 0] cc) cc (by omega) (by unfold maxLen; omega) (by rw [size_madeCells]; omega)
      have h5 : off D 0 = 0 := off_zero D
      refine ⟨((HR.out.alloc _).alloc _).alloc _, ?_, ?_, ?_, by omega, Nat.le_refl _, ((HB.out.alloc (by omega) _).alloc (by simp; omega) _).alloc (by simp; omega) _⟩
      · rw [HK.out]; exact (h2.alloc _).congr (fun i _ => by rw [if_neg (by omega)])
      · rw [HK.out]; exact h3.congr (fun i _ => by rw [if_neg (by omega)])
      · rw [h5]; exact (h4.alloc _).alloc _
    have HM0 := hide hM0
    have HI := hide hi5
    have HZ0 := hide hz0
    have HZ1 := hide hz1
    have HZ2 := hide hz2
    clear hM0 hi5 hz0 hz1 hz2
    go_wp2
    clear hmk0 hmk2 hcc
    obtain ⟨G, hGe⟩ : ∃ G, wc.heap.size + 1 = G := ⟨_, rfl⟩
    obtain ⟨W2, hW2⟩ : ∃ W2, W2 = (((wc.alloc (.cells (madeCells #[.int .u8 0] cc) 5)).alloc (.cells (madeCells #[.int .i64 0] (K + 1)) 3)).alloc (.cells (madeCells #[.int .i64 0] (K + 1)) 3)) := ⟨_, rfl⟩
    rw [← hW2] at HM0 ⊢
    rw [hGe] at HM0 ⊢
    clear hW2 hGe HR HB
    have hdl' : len D ≤ s.size := by have h1 := HG.out.ln; have h2 := HG.out.le2; omega
    go_loopg [16, 19, 20] D.length (fun g t16 t19 _ wx => ∃ i : Nat, i + g = D.length ∧ t19 = .int .i64 i ∧ M2 w1 wx s w1.heap.size G T.length D t16 i i i)
    case atStart => exact ⟨0, by omega, rfl, HM0.out⟩
    case round =>
      obtain ⟨i, hi, rfl, hm⟩ := hrel
      obtain ⟨ao, co, rfl⟩ := own_shape hm.out
      have HM1 := hide hm
      clear hm HM0
      by_cases hiD : i < D.length
      · have hiT : i < T.length := by omega
        have hoff := off_le D i
        obtain ⟨e, he⟩ : ∃ e, (tn T i).2.1 = e := ⟨_, rfl⟩
        obtain ⟨st, hst⟩ : ∃ st, (nth D i).1 = st := ⟨_, rfl⟩
        obtain ⟨e2, he2⟩ : ∃ e2, (nth D i).2 = e2 := ⟨_, rfl⟩
        have hin := HG.out.inn i hiD
        rw [hst, he2] at hin
        have k1 := HM1.out.pl.cell hiD
        have k2 := HM1.out.pl.frozen i
        simp only [Nat.lt_irrefl, if_false] at k1
        have HE := hide he
        have HST := hide hst
        have HE2 := hide he2
        clear he hst he2
        have iK : (i : Int) ≤ (K : Int) := by omega
        have iK2 : (i : Int) < (K : Int) + 1 := by omega
        go_upto_region 21 with (fail)
        obtain ⟨W4, hW4⟩ : ∃ W4, W4 = wr.setCell ⟨G, i, none⟩ (.int .i64 (off D i : Nat)) := ⟨_, rfl⟩
        rw [← hW4]
        have HM4 : Hid (M2 w1 W4 s w1.heap.size G T.length D (.slice ao (off D i) co) (i + 1) i i) := by rw [hW4]; exact HM1.out.setPl
        clear hW4 HM1 k1 k2
        have k1 := HM4.out.ps.cell hiD
        have k2 := HM4.out.ps.frozen i
        simp only [Nat.lt_irrefl, if_false] at k1
        have k3 : W4.cell? ⟨w1.heap.size, i, none⟩ = some (.int .i64 (st : Nat)) := by have h := HM4.out.cs.cell hiT; rw [if_pos hiD, psv, HST.out] at h; exact h
        go_upto_region 22 with (fail)
        obtain ⟨W5, hW5⟩ : ∃ W5, W5 = W4.setCell ⟨G + 1, i, none⟩ (.int .i64 (st : Nat)) := ⟨_, rfl⟩
        rw [← hW5]
        have HM5 : Hid (M2 w1 W5 s w1.heap.size G T.length D (.slice ao (off D i) co) (i + 1) (i + 1) i) := by
          rw [hW5]
          have h := HM4.out.setPs
          rw [psv, HST.out] at h
          exact hide h
        clear hW5 HM4 k1 k2 k3
        have k3 : W5.cell? ⟨w1.heap.size, i, none⟩ = some (.int .i64 (st : Nat)) := by have h := HM5.out.cs.cell hiT; rw [if_pos hiD, psv, HST.out] at h; exact h
        have k4 : W5.cell? ⟨g2, i, none⟩ = some (.int .i64 (e : Nat)) := by rw [← HE.out]; exact (HCT.out.keep HM5.out.bel).s2 i hiT
        go_upto_if 102 with (fail)
        go_cut [20] (fun t20 wd => t20 = .int .i64 (e2 : Nat) ∧ wd = W5)
        case first =>
          by_cases hl : i + 1 < D.length
          · have hs2 := HM.out.snd i hl
            rw [HE2.out, HE.out] at hs2
            have iK3 : (i : Int) < (K : Int) := by omega
            go_wp2
            go_meet
            exact ⟨by rw [show (e : Int) - 1 = e2 by omega], rfl⟩
          · have hs2 := HM.out.lst i (by omega)
            rw [HE2.out, HE.out] at hs2
            subst hs2
            have iK3 : ¬ (i : Int) < (K : Int) := by omega
            go_wp2
            go_meet
            exact ⟨rfl, rfl⟩
        case rest =>
          obtain ⟨rfl, rfl⟩ := hcut
          have HSZ := hide (size_extract s st e2 hin.2)
          have hbw := HM5.out.bel.size
          have i6 : (st : Int) ≤ (e2 : Int) := by omega
          have i7 : (e2 : Int) ≤ (s.size : Int) := by omega
          have hoff2 := off_le D (i + 1)
          have hoff3 := off_succ D i hiD
          rw [HST.out, HE2.out] at hoff3
          go_wp2_with (at_builtin; refine Lib.wpList_append_own_string _ rfl _ _ 28 9 rfl w1.heap.size 5 i5 Try.underlying28 Try.underlying9 HI.out HZ0.out HZ1.out HZ2.out _ _ _ rfl HM5.out.out (s.extract st e2) rfl (by rw [HSZ.out]; unfold maxLen; omega) (by rw [HSZ.out]; omega) (by omega) ?_; intro v6 w6 hown6 hgrow6 hnil6; obtain ⟨a6, c6, hv6⟩ := own_shape hown6; subst hv6; have HM6 : Hid (M2 w1 w6 s w1.heap.size G T.length D (.slice a6 (off D i + (s.extract st e2).size) c6) (i + 1) (i + 1) (i + 1)) := hide (HM5.out.app hiD (by rw [HE2.out]; exact hin.2) (by rw [HST.out, HE2.out]; exact hown6) hgrow6); clear hown6 hgrow6 hnil6)
          go_roundg (D.length - (i + 1))
          case measure => omega
          case rel => exact ⟨i + 1, by omega, by go_num, by have h := HM6.out; rw [HSZ.out] at h; exact h⟩
      · obtain rfl : i = D.length := by omega
        have hfit := HG.out.fits
        have hcl2 := cat_length hfit
        have hout := HM1.out.out
        rw [off_all, List.take_length, ← hcl2] at hout
        obtain ⟨L, hL⟩ : ∃ L, cat s D = L := ⟨_, rfl⟩
        have hJ : joined s D = ⟨L.toArray⟩ := by rw [← hL]; rfl
        rw [hL] at hout
        have hof : off D D.length = L.length := by rw [off_all, ← hcl2, hL]
        rw [hof]
        have k4 : wr.cell? ⟨g3, K, none⟩ = some (.int .i64 (q : Nat)) := by rw [← HM.out.aft K (by omega)]; exact (HCT.out.keep HM1.out.bel).s3 K (by omega)
        have iK : ¬ ((D.length : Nat) : Int) ≤ (K : Int) := by omega
        have iT : (K : Int) < (T.length : Int) := by omega
        have hcv : ∀ n, (convert 28 9 (.slice ao L.length co)).run Try.prog (wr.drewN n) = .ok (.string (joined s D)) (wr.drewN n) := by
          intro n
          rw [hJ]
          rcases hout.2 with ⟨hv, h0⟩ | ⟨g, cap, cur, hv, _⟩
          · obtain rfl : L = [] := List.length_eq_zero_iff.1 h0
            rw [hv]
            exact conv_nil _
          · rw [hv]
            rw [hv] at hout
            exact run_convert_bytes_back (P := Try.prog) (wr.drewN n) 28 9 5 ⟨g, 0, none⟩ cap L Try.underlying28 Try.underlying5 Try.underlying9 (fun j hj => by
              rw [addr_add]
              show wr.cell? ⟨g, j, none⟩ = _
              rw [hout.cellAt j (by omega)]
              simp [bcells, hj])
        have hr1 := HM1.out.pl.congr (g := fun x => .int .i64 (plv D x)) (fun x hx => by rw [if_pos hx])
        have hr2 := HM1.out.ps.congr (g := fun x => .int .i64 (psv D x)) (fun x hx => by rw [if_pos hx])
        have HR1 := hide hr1
        have HR2 := hide hr2
        have HBE : Hid (Below w.heap.size w wr) := hide (HB1.out.trans (HM1.out.bel.mono HB1.out.size))
        clear hr1 hr2 HM1 hout hJ hL hcl2 hfit hof
        go_upto_region 26 with (fail)
        go_quiet (fail)
        go_wp2
        refine bodyPost_ret (v := .tuple #[.string (joined s D), .int .i64 q, .slice (some ⟨G, 0, none⟩) (K + 1) (K + 1), .slice (some ⟨G + 1, 0, none⟩) (K + 1) (K + 1)]) (by simp [results, Try.results24, go_sem]) rfl ⟨G, G + 1, rfl, (HK.out ▸ HR1.out : wr.rowIs G 3 (K + 1) (fun x => .int .i64 (plv D x))).of_block rfl, (HK.out ▸ HR2.out : wr.rowIs (G + 1) 3 (K + 1) (fun x => .int .i64 (psv D x))).of_block rfl, below_drewN HBE.out _⟩
end Go.Proofs.Qxb6601608a
